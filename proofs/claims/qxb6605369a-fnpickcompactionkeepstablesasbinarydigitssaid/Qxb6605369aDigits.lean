import Derived.Test.Qxb6605369aScale
import Derived.Test.Qxb6605369aMerge
namespace Go.Proofs.Qxb6605369a
open Go.RowKit

theorem and_one_i64 (n : Int) : bits .and .i64 n 1 = n % 2 := by
  have h1 : (BitVec.ofInt 64 1).toNat = 2 ^ 1 - 1 := by decide
  have key : (BitVec.ofInt 64 n &&& BitVec.ofInt 64 1).toNat = (n % ((2 ^ 64 : Nat) : Int)).toNat % 2 ^ 1 := by
    rw [BitVec.toNat_and, BitVec.toNat_ofInt, h1, Nat.and_two_pow_sub_one_eq_mod]
  show IntKind.i64.wrap ((BitVec.ofInt 64 n &&& BitVec.ofInt 64 1).toNat : Nat) = n % 2
  rw [key, IntKind.wrap_i64]
  omega

theorem bit_of (k b : Nat) : ((k : Int) / 2 ^ b) % 2 = ((k / 2 ^ b % 2 : Nat) : Int) := by
  simp
theorem bit_yes (k b : Nat) (h : k / 2 ^ b % 2 = 1) : (bits BinOp.and IntKind.i64 ((k : Int) / 2 ^ b) 1 == 1) = true := by
  rw [and_one_i64, bit_of, h]; rfl
theorem bit_no (k b : Nat) (h : ¬ k / 2 ^ b % 2 = 1) : (bits BinOp.and IntKind.i64 ((k : Int) / 2 ^ b) 1 == 1) = false := by
  rw [and_one_i64, bit_of]
  exact beq_eq_false_iff_ne.2 (by omega)

theorem shl_fits (c : Int) (b : Nat) (hb : b < 10) (hc0 : 1 ≤ c) (hc1 : c ≤ 9007199254740992) : (c * 2 ^ b != wrap64 (c * 2 ^ b)) = false := by
  have h : (2 : Nat) ^ b ≤ 512 := by
    have : (2 : Nat) ^ b ≤ 2 ^ 9 := Nat.pow_le_pow_right (by omega) (by omega)
    omega
  have h2 : ((2 ^ b : Nat) : Int) = (2 : Int) ^ b := by simp
  rw [← h2]
  generalize (2 : Nat) ^ b = x at *
  have h0 : 0 ≤ c * (x : Int) := Int.mul_nonneg (by omega) (by omega)
  have h1 : c * (x : Int) ≤ 9007199254740992 * (x : Int) := Int.mul_le_mul_of_nonneg_right hc1 (by omega)
  have e : wrap64 (c * (x : Int)) = c * (x : Int) := by
    unfold wrap64
    omega
  rw [e]
  simp

theorem dgB_head (k : Nat) : ∀ d b, ∃ t, dgB k (b + d) = dgB k b ++ t := by
  intro d
  induction d with
  | zero => intro b; exact ⟨[], by simp⟩
  | succ d ih =>
    intro b
    obtain ⟨t, ht⟩ := ih b
    show ∃ t, (if k / 2 ^ (b + d) % 2 = 1 then dgB k (b + d) ++ [2 ^ (b + d)] else dgB k (b + d)) = _
    split
    · exact ⟨t ++ [2 ^ (b + d)], by rw [ht]; simp⟩
    · exact ⟨t, ht⟩

theorem dg_at (k b : Nat) (hb : b < 10) (h : k / 2 ^ b % 2 = 1) : (dgB k b).length < (dg k).length ∧ (dg k).getD (dgB k b).length 0 = 2 ^ b := by
  obtain ⟨t, ht⟩ := dgB_head k (10 - (b + 1)) (b + 1)
  rw [show b + 1 + (10 - (b + 1)) = 10 from by omega] at ht
  have h1 : dgB k (b + 1) = dgB k b ++ [2 ^ b] := by
    show (if k / 2 ^ b % 2 = 1 then dgB k b ++ [2 ^ b] else dgB k b) = _
    rw [if_pos h]
  unfold dg
  rw [ht, h1]
  constructor
  · simp
  · simp [List.getD]

set_option maxHeartbeats 1000000 in
set_option maxRecDepth 100000 in
theorem digits_any (ao : Option Addr) (len cap : Nat) (k : Nat) (c : Int) (w : World) (hr : Rd w ao len (scale c (dg k))) (_hk : k ≤ 1000) (hc0 : 1 ≤ c) (hc1 : c ≤ 9007199254740992) (hl : len ≤ 1048576) :
    Calls Try.prog 10 #[.slice ao len cap, .int .i64 k, .int .i64 c] w fun e w' => e = .returned (.bool true) ∧ ∃ n, w' = w.drewN n := by
  go_enter Try.func10, Try.ntmps10
  go_wp2
  go_loopw [7, 8] (fun i b wr => ∃ bn nq : Nat, bn ≤ 10 ∧ i = .int .i64 ((dgB k bn).length : Nat) ∧ b = .int .i64 bn ∧ wr = w.drewN nq) (fun _ b _ => 10 - (intOf b).toNat)
  case atStart => exact ⟨0, 0, by omega, rfl, rfl, rfl⟩
  case round =>
    obtain ⟨bn, nq, hbn, rfl, rfl, rfl⟩ := hrel
    by_cases hb : bn < 10
    · have hb' : (bn : Int) < 10 := by omega
      by_cases hbit : k / 2 ^ bn % 2 = 1
      · have hbt : (bits BinOp.and IntKind.i64 ((k : Int) / 2 ^ bn) 1 == 1) = true := bit_yes k bn hbit
        obtain ⟨hi1, hi2⟩ := dg_at k bn hb hbit
        have hsc := scale_at c (dg k) (dgB k bn).length
        rw [hi2] at hsc
        have hlen : (dg k).length = len := by rw [← scale_length c]; exact hr.hlen
        have hnx : Hid ((dgB k (bn + 1)).length = (dgB k bn).length + 1) := by
          show (if k / 2 ^ bn % 2 = 1 then dgB k bn ++ [2 ^ bn] else dgB k bn).length = _
          rw [if_pos hbit]; simp
        obtain ⟨b, hbb, hc⟩ := hr.cell (dgB k bn).length (by omega)
        subst hbb
        rw [hsc] at hc
        clear hsc hi2 hbit
        generalize (dgB k bn).length = idx at *
        have hlt : (idx : Int) < (len : Int) := by omega
        have hge : decide (len ≤ idx) = false := decide_eq_false (by omega)
        have hne : (c * 2 ^ bn != wrap64 (c * 2 ^ bn)) = false := shl_fits c bn hb hc0 hc1
        go_wp2
        go_quiet (fail)
        go_wp2
        go_roundw
        case rel => exact ⟨bn + 1, _, by omega, by rw [hnx.out]; go_num, by go_num, rfl⟩
        case measure => simp [intOf]; omega
      · have hbt : (bits BinOp.and IntKind.i64 ((k : Int) / 2 ^ bn) 1 == 1) = false := bit_no k bn hbit
        have hnx : Hid ((dgB k (bn + 1)).length = (dgB k bn).length) := by
          show (if k / 2 ^ bn % 2 = 1 then dgB k bn ++ [2 ^ bn] else dgB k bn).length = _
          rw [if_neg hbit]
        clear hbit
        generalize (dgB k bn).length = idx at *
        go_wp2
        go_roundw
        case rel => exact ⟨bn + 1, nq, by omega, by rw [hnx.out], by go_num, rfl⟩
        case measure => simp [intOf]; omega
    · have hbe : bn = 10 := by omega
      subst hbe
      have hlen : (dgB k 10).length = len := by
        have := hr.hlen
        rw [scale_length] at this
        exact this
      rw [hlen]
      go_wp2
      go_ret
      exact ⟨rfl, nq, rfl⟩
end Go.Proofs.Qxb6605369a
