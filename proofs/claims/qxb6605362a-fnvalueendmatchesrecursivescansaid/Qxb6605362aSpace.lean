import Derived.Test.Qxb6605362aRows
import Derived.WalkKit
import Derived.ProofKit
import Derived.WalkSpells
import Derived.WalkLawsBesides
import Derived.Deep.OwnRows
import Derived.Laws.CopyOwn
namespace Go.Proofs.Qxb6605362a
open Go.RowKit

/-- JSON whitespace. -/
def isSp (c : Int) : Bool := c == 32 || c == 9 || c == 10 || c == 13

theorem isSp_yes {c : Int} (h : c = 32 ∨ c = 9 ∨ c = 10 ∨ c = 13) : isSp c = true := by
  unfold isSp; simp; omega
theorem isSp_no {c : Int} (h1 : ¬ c = 32) (h2 : ¬ c = 9) (h3 : ¬ c = 10) (h4 : ¬ c = 13) : isSp c = false := by
  unfold isSp; simp; omega
theorem isSp_cases (c : Int) : (isSp c = true ∧ (c = 32 ∨ c = 9 ∨ c = 10 ∨ c = 13)) ∨ (isSp c = false ∧ ¬ c = 32 ∧ ¬ c = 9 ∧ ¬ c = 10 ∧ ¬ c = 13) := by
  by_cases h : c = 32 ∨ c = 9 ∨ c = 10 ∨ c = 13
  · exact .inl ⟨isSp_yes h, h⟩
  · exact .inr ⟨isSp_no (by omega) (by omega) (by omega) (by omega), by omega, by omega, by omega, by omega⟩

theorem isSpace_any (c : Int) (w : World) :
    Calls Try.prog 13 #[.int .u8 c] w fun e w' => e = .returned (.bool (isSp c)) ∧ w' = w := by
  rcases isSp_cases c with ⟨h, rfl | rfl | rfl | rfl⟩ | ⟨h, h1, h2, h3, h4⟩
  · go_enter Try.func13, Try.ntmps13
    go_wp2
    go_ret
    exact ⟨rfl, rfl⟩
  · go_enter Try.func13, Try.ntmps13
    go_wp2
    go_ret
    exact ⟨rfl, rfl⟩
  · go_enter Try.func13, Try.ntmps13
    go_wp2
    go_ret
    exact ⟨rfl, rfl⟩
  · go_enter Try.func13, Try.ntmps13
    go_wp2
    go_ret
    exact ⟨rfl, rfl⟩
  · rw [h]
    have b1 : (c == 32) = false := beq_eq_false_iff_ne.2 h1
    have b2 : (c == 9) = false := beq_eq_false_iff_ne.2 h2
    have b3 : (c == 10) = false := beq_eq_false_iff_ne.2 h3
    have b4 : (c == 13) = false := beq_eq_false_iff_ne.2 h4
    clear h h1 h2 h3 h4
    go_enter Try.func13, Try.ntmps13
    go_wp2
    go_ret
    exact ⟨rfl, rfl⟩

/-- A slice of bytes as the callees read it: its numbers, and where their cells lie. -/
structure Rd (w : World) (ao : Option Addr) (len : Nat) (zs : List Int) : Prop where
  hlen : zs.length = len
  cell : ∀ k, k < len → ∃ b, ao = some ⟨b, 0, none⟩ ∧ w.cell? ⟨b, k, none⟩ = some (.int .u8 (zs.getD k 0))

/-- Where the first byte at or after i that is no whitespace stands. -/
structure Skip (zs : List Int) (i j : Nat) : Prop where
  lo : i ≤ j
  hi : j ≤ zs.length
  sp : ∀ p, i ≤ p → p < j → isSp (zs.getD p 0) = true
  stop : j < zs.length → isSp (zs.getD j 0) = false

set_option maxHeartbeats 1000000 in
theorem skipSpace_any (ao : Option Addr) (len cap : Nat) (zs : List Int) (i : Nat) (w : World) (hr : Rd w ao len zs) (hi : i ≤ len) (hl : len ≤ 1048576) :
    Calls Try.prog 26 #[.slice ao len cap, .int .i64 i] w fun e w' => (∃ j : Nat, e = .returned (.int .i64 j) ∧ Skip zs i j) ∧ w' = w := by
  have hzl := hr.hlen
  go_enter Try.func26, Try.ntmps26
  go_wp2
  go_loop [1] (fun p => ∃ k : Nat, i ≤ k ∧ k ≤ len ∧ p = .int .i64 k ∧ Hid (∀ q, i ≤ q → q < k → isSp (zs.getD q 0) = true)) (fun p => len - (intOf p).toNat)
  case atStart => exact ⟨i, Nat.le_refl _, hi, rfl, fun q h1 h2 => absurd h2 (by omega)⟩
  case round =>
    obtain ⟨k, hik, hk, rfl, hsp⟩ := hrel
    by_cases hlt : k < len
    · obtain ⟨b, rfl, hc⟩ := hr.cell k hlt
      have hlt' : (k : Int) < (len : Int) := by omega
      obtain ⟨c, hcc⟩ : ∃ c, c = zs.getD k 0 := ⟨_, rfl⟩
      rw [← hcc] at hc
      have HC : Hid (c = zs.getD k 0) := hcc
      clear hcc
      rcases isSp_cases c with ⟨h, h1⟩ | ⟨h, h1, h2, h3, h4⟩
      · have HS : Hid (isSp c = true) := h
        clear h
        rcases h1 with rfl | rfl | rfl | rfl
        all_goals
          go_wp2
          go_round
          case rel => exact ⟨k + 1, by omega, by omega, by go_num, fun q h1 h2 => by
            by_cases e : q = k
            · rw [e, ← HC.out]; exact HS.out
            · exact hsp.out q h1 (by omega)⟩
          case measure => simp [intOf]; omega
      · have HS : Hid (isSp c = false) := h
        clear h
        have b1 : (c == 32) = false := beq_eq_false_iff_ne.2 h1
        have b2 : (c == 9) = false := beq_eq_false_iff_ne.2 h2
        have b3 : (c == 10) = false := beq_eq_false_iff_ne.2 h3
        have b4 : (c == 13) = false := beq_eq_false_iff_ne.2 h4
        clear h1 h2 h3 h4
        go_wp2
        go_ret
        exact ⟨⟨k, rfl, hik, by omega, hsp.out, fun _ => by rw [← HC.out]; exact HS.out⟩, rfl⟩
    · have hlt' : ¬ (k : Int) < (len : Int) := by omega
      go_wp2
      go_ret
      exact ⟨⟨k, rfl, hik, by omega, hsp.out, fun h => absurd h (by omega)⟩, rfl⟩

set_option maxHeartbeats 1000000 in
theorem allSpace_yes (ao : Option Addr) (len cap : Nat) (zs : List Int) (i j : Nat) (w : World) (hr : Rd w ao len zs) (hi : i ≤ j) (hj : j ≤ len) (hl : len ≤ 1048576)
    (hs : ∀ p, i ≤ p → p < j → isSp (zs.getD p 0) = true) :
    Calls Try.prog 14 #[.slice ao len cap, .int .i64 i, .int .i64 j] w fun e w' => e = .returned (.bool true) ∧ w' = w := by
  have HS : Hid (∀ p, i ≤ p → p < j → isSp (zs.getD p 0) = true) := hs
  clear hs
  go_enter Try.func14, Try.ntmps14
  go_wp2
  go_loop [7] (fun p => ∃ k : Nat, i ≤ k ∧ k ≤ j ∧ p = .int .i64 k) (fun p => j - (intOf p).toNat)
  case atStart => exact ⟨i, Nat.le_refl _, hi, rfl⟩
  case round =>
    obtain ⟨k, hik, hk, rfl⟩ := hrel
    by_cases hlt : k < j
    · obtain ⟨b, rfl, hc⟩ := hr.cell k (by omega)
      have h1 := HS.out k hik hlt
      generalize zs.getD k 0 = c at *
      have hlt' : (k : Int) < (len : Int) := by omega
      go_wp2_with (go_at_call 13; refine (isSpace_any _ _).mono ?_; rintro e w' ⟨rfl, rfl⟩)
      go_round
      case rel => exact ⟨k + 1, by omega, by omega, by go_num⟩
      case measure => simp [intOf]; omega
    · go_wp2
      go_ret
      exact ⟨rfl, rfl⟩

/-- What 'next' answers. -/
def NextR (zs : List Int) (i : Nat) (cl : Int) (k : Int) (closed : Bool) : Prop :=
  ∃ j : Nat, Skip zs i j ∧
    ((j = zs.length ∧ k = -1 ∧ closed = false) ∨
     (j < zs.length ∧ zs.getD j 0 = cl ∧ k = j + 1 ∧ closed = true) ∨
     (j < zs.length ∧ zs.getD j 0 ≠ cl ∧ zs.getD j 0 = 44 ∧ closed = false ∧ ∃ m : Nat, k = m ∧ Skip zs (j + 1) m) ∨
     (j < zs.length ∧ zs.getD j 0 ≠ cl ∧ zs.getD j 0 ≠ 44 ∧ k = -1 ∧ closed = false))

set_option maxHeartbeats 1000000 in
theorem next_any (ao : Option Addr) (len cap : Nat) (zs : List Int) (i : Nat) (cl : Int) (w : World) (hr : Rd w ao len zs) (hi : i ≤ len) (hl : len ≤ 1048576) :
    Calls Try.prog 21 #[.slice ao len cap, .int .i64 i, .int .u8 cl] w fun e w' => (∃ (k : Int) (closed : Bool), e = .returned (.tuple #[.int .i64 k, .bool closed]) ∧ NextR zs i cl k closed) ∧ w' = w := by
  have hzl := hr.hlen
  go_enter Try.func21, Try.ntmps21
  go_wp2_with fail
  refine (skipSpace_any ao len cap zs i _ hr hi hl).mono ?_
  rintro e w' ⟨⟨j, rfl, hj⟩, rfl⟩
  have hj1 := hj.lo
  have hj2 := hj.hi
  by_cases he : j = len
  · have hb : ((j : Int) == (len : Int)) = true := beq_iff_eq.2 (by omega)
    have HE : Hid (j = len) := he
    clear he
    go_wp2
    go_ret2
    exact ⟨⟨_, _, rfl, j, hj, .inl ⟨by have := HE.out; omega, rfl, rfl⟩⟩, rfl⟩
  · have hb : ((j : Int) == (len : Int)) = false := beq_eq_false_iff_ne.2 (by omega)
    obtain ⟨b, rfl, hc⟩ := hr.cell j (by omega)
    have hlt' : (j : Int) < (len : Int) := by omega
    obtain ⟨c, hcc⟩ : ∃ c, c = zs.getD j 0 := ⟨_, rfl⟩
    rw [← hcc] at hc
    have HC : Hid (c = zs.getD j 0) := hcc
    clear hcc
    by_cases h1 : c = cl
    · have hb1 : (c == cl) = true := beq_iff_eq.2 h1
      have H1 : Hid (c = cl) := h1
      clear h1
      go_wp2
      go_ret2
      exact ⟨⟨_, _, rfl, j, hj, .inr (.inl ⟨by omega, by rw [← HC.out]; exact H1.out, rfl, rfl⟩)⟩, rfl⟩
    · have hb1 : (c == cl) = false := beq_eq_false_iff_ne.2 h1
      have H1 : Hid (¬ c = cl) := h1
      clear h1
      by_cases h2 : c = 44
      · have hb2 : (c == 44) = true := beq_iff_eq.2 h2
        have H2 : Hid (c = 44) := h2
        clear h2
        go_wp2_with fail
        refine (skipSpace_any _ len cap zs (j + 1) _ hr (by omega) hl).mono ?_
        rintro e w' ⟨⟨m, rfl, hm⟩, rfl⟩
        go_wp2
        go_ret2
        exact ⟨⟨_, _, rfl, j, hj, .inr (.inr (.inl ⟨by omega, by rw [← HC.out]; exact H1.out, by rw [← HC.out]; exact H2.out, rfl, m, rfl, hm⟩))⟩, rfl⟩
      · have hb2 : (c == 44) = false := beq_eq_false_iff_ne.2 h2
        have H2 : Hid (¬ c = 44) := h2
        clear h2
        go_wp2
        go_ret2
        exact ⟨⟨_, _, rfl, j, hj, .inr (.inr (.inr ⟨by omega, by rw [← HC.out]; exact H1.out, by rw [← HC.out]; exact H2.out, rfl, rfl⟩))⟩, rfl⟩

theorem zzNext_any (ao : Option Addr) (len cap : Nat) (zs : List Int) (i : Nat) (cl : Int) (w : World) (hr : Rd w ao len zs) (hi : i ≤ len) (hl : len ≤ 1048576) :
    Calls Try.prog 12 #[.slice ao len cap, .int .i64 i, .int .u8 cl] w fun e w' => (∃ (k : Int) (closed : Bool), e = .returned (.tuple #[.int .i64 k, .bool closed]) ∧ NextR zs i cl k closed) ∧ w' = w := by
  go_enter Try.func12, Try.ntmps12
  go_wp2_with fail
  refine (next_any ao len cap zs i cl _ hr hi hl).mono ?_
  rintro e w' ⟨⟨k, closed, rfl, h⟩, rfl⟩
  go_wp2
  go_ret2
  exact ⟨⟨k, closed, rfl, h⟩, rfl⟩

theorem zzBytesNext_any (ao : Option Addr) (len cap : Nat) (i cl : Int) (w : World) (hl : len ≤ maxLen) :
    Calls Try.prog 11 #[.slice ao len cap, .int .i64 i, .int .u8 cl] w fun e w' => e = .returned (.bool (decide (len ≤ 1048576))) ∧ w' = w := by
  unfold maxLen at hl
  by_cases h : len ≤ 1048576
  · rw [decide_eq_true h]
    go_enter Try.func11, Try.ntmps11
    go_wp2
    go_ret
    exact ⟨rfl, rfl⟩
  · rw [decide_eq_false h]
    go_enter Try.func11, Try.ntmps11
    go_wp2
    go_ret
    exact ⟨rfl, rfl⟩
end Go.Proofs.Qxb6605362a
