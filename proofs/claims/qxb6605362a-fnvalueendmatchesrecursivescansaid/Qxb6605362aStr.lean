import Derived.Test.Qxb6605362aCopy
import Derived.Test.Qxb6605362aScan
namespace Go.Proofs.Qxb6605362a
open Go.RowKit

theorem drop_at (zs : List Int) (k : Nat) (h : k < zs.length) : zs.drop k = zs.getD k 0 :: zs.drop (k + 1) := by
  rw [List.drop_eq_getElem_cons h]
  simp [List.getD, List.getElem?_eq_getElem h]

/-- What is left of a string at place p comes to R. -/
def StrAt (zs : List Int) (m p R : Nat) : Prop := p + sE m (zs.drop p) = R

theorem StrAt.quote {zs : List Int} {p R : Nat} (h : StrAt zs 0 p R) (hp : p < zs.length) (hc : zs.getD p 0 = 34) : R = p + 1 := by
  unfold StrAt at h
  rw [drop_at zs p hp, hc] at h
  simp [sE] at h
  omega
theorem StrAt.slash {zs : List Int} {p R : Nat} (h : StrAt zs 0 p R) (hp : p < zs.length) (hc : zs.getD p 0 = 92) : StrAt zs 1 (p + 1) R := by
  unfold StrAt at *
  rw [drop_at zs p hp, hc] at h
  simp [sE] at h
  omega
theorem StrAt.other {zs : List Int} {p R : Nat} (h : StrAt zs 0 p R) (hp : p < zs.length) (h1 : ¬ zs.getD p 0 = 34) (h2 : ¬ zs.getD p 0 = 92) : StrAt zs 0 (p + 1) R := by
  unfold StrAt at *
  rw [drop_at zs p hp] at h
  rw [sE, if_neg (by omega), if_neg h1, if_neg h2] at h
  omega
theorem StrAt.behind {zs : List Int} {p R : Nat} (h : StrAt zs 1 p R) (hp : p < zs.length) : StrAt zs 0 (p + 1) R := by
  unfold StrAt at *
  rw [drop_at zs p hp, sE, if_pos rfl] at h
  omega
theorem StrAt.done {zs : List Int} {m p R : Nat} (h : StrAt zs m p R) (hp : p = zs.length) : R = zs.length := by
  unfold StrAt at h
  rw [hp, List.drop_length] at h
  simp [sE] at h
  omega

set_option maxHeartbeats 1000000 in
theorem stringEnd_any (ao : Option Addr) (len cap : Nat) (zs : List Int) (q R : Nat) (w : World) (hr : Rd w ao len zs) (hq : q < len) (hl : len ≤ 1048576) (hR : StrAt zs 0 (q + 1) R) :
    Calls Try.prog 27 #[.slice ao len cap, .int .i64 q] w fun e w' => e = .returned (.int .i64 R) ∧ w' = w := by
  have hzl := hr.hlen
  go_enter Try.func27, Try.ntmps27
  go_wp2
  go_loop [1] (fun p => ∃ k : Nat, k ≤ len + 1 ∧ p = .int .i64 k ∧ (k ≤ len → StrAt zs 0 k R) ∧ (len < k → Hid (R = len))) (fun p => len + 1 - (intOf p).toNat)
  case atStart => exact ⟨q + 1, by omega, by go_num, fun _ => hR, fun h => absurd h (by omega)⟩
  case round =>
    obtain ⟨k, hk, rfl, hs, hs2⟩ := hrel
    by_cases hlt : k < len
    · obtain ⟨b, rfl, hc⟩ := hr.cell k hlt
      have hlt' : (k : Int) < (len : Int) := by omega
      have HS : StrAt zs 0 k R := hs (by omega)
      clear hs hs2 hR
      obtain ⟨c, hcc⟩ : ∃ c, c = zs.getD k 0 := ⟨_, rfl⟩
      rw [← hcc] at hc
      have HC : Hid (c = zs.getD k 0) := hcc
      clear hcc
      by_cases h34 : c = 34
      · subst h34
        go_wp2
        go_ret
        have := HS.quote (by omega) HC.out.symm
        exact ⟨by subst this; rfl, rfl⟩
      · by_cases h92 : c = 92
        · subst h92
          go_wp2
          go_round
          case rel =>
            have h1 := HS.slash (by omega) HC.out.symm
            refine ⟨k + 2, by omega, by go_num, fun h => ?_, fun h => ?_⟩
            · exact h1.behind (by omega)
            · exact (h1.done (by omega)).trans (by omega)
          case measure => simp [intOf]; omega
        · have b1 : (c == 34) = false := beq_eq_false_iff_ne.2 h34
          have b2 : (c == 92) = false := beq_eq_false_iff_ne.2 h92
          have H1 : Hid (¬ c = 34) := h34
          have H2 : Hid (¬ c = 92) := h92
          clear h34 h92
          go_wp2
          go_round
          case rel =>
            refine ⟨k + 1, by omega, by go_num, fun _ => HS.other (by omega) (by rw [← HC.out]; exact H1.out) (by rw [← HC.out]; exact H2.out), fun h => absurd h (by omega)⟩
          case measure => simp [intOf]; omega
    · have hfin : R = len := by
        by_cases he : k ≤ len
        · exact ((hs he).done (by omega)).trans (by omega)
        · exact (hs2 (by omega)).out
      clear hs hs2 hR
      subst hfin
      go_wp2
      go_ret
      exact ⟨rfl, rfl⟩

set_option maxHeartbeats 1000000 in
theorem quoteEnd_any (ao : Option Addr) (len cap : Nat) (zs : List Int) (q R : Nat) (w : World) (hr : Rd w ao len zs) (hq : q < len) (hl : len ≤ 1048576) (hR : StrAt zs 0 (q + 1) R) :
    Calls Try.prog 23 #[.slice ao len cap, .int .i64 q] w fun e w' => e = .returned (.int .i64 R) ∧ w' = w := by
  have hzl := hr.hlen
  go_enter Try.func23, Try.ntmps23
  go_wp2
  go_loop [5, 6] (fun r p => ∃ k n : Nat, k ≤ len ∧ n ≤ k ∧ r = .int .i64 n ∧ p = .int .i64 k ∧ StrAt zs (n % 2) k R) (fun _ p => len + 1 - (intOf p).toNat)
  case atStart => exact ⟨q + 1, 0, by omega, by omega, rfl, by go_num, hR⟩
  case round =>
    obtain ⟨k, n, hk, hn, rfl, rfl, HS⟩ := hrel
    clear hR
    by_cases hlt : k < len
    · obtain ⟨b, rfl, hc⟩ := hr.cell k hlt
      have hlt' : (k : Int) < (len : Int) := by omega
      obtain ⟨c, hcc⟩ : ∃ c, c = zs.getD k 0 := ⟨_, rfl⟩
      rw [← hcc] at hc
      have HC : Hid (c = zs.getD k 0) := hcc
      clear hcc
      by_cases h92 : c = 92
      · subst h92
        go_wp2
        go_round
        case rel =>
          refine ⟨k + 1, n + 1, by omega, by omega, by go_num, by go_num, ?_⟩
          by_cases hm : n % 2 = 0
          · rw [hm] at HS
            rw [show (n + 1) % 2 = 1 from by omega]
            exact HS.slash (by omega) HC.out.symm
          · rw [show n % 2 = 1 from by omega] at HS
            rw [show (n + 1) % 2 = 0 from by omega]
            exact HS.behind (by omega)
        case measure => simp [intOf]; omega
      · have b2 : (c == 92) = false := beq_eq_false_iff_ne.2 h92
        have H2 : Hid (¬ c = 92) := h92
        clear h92
        by_cases h34 : c = 34
        · subst h34
          by_cases hm : n % 2 = 0
          · rw [hm] at HS
            have hmi : (n : Int) % 2 = 0 := by omega
            go_wp2
            go_ret
            have := HS.quote (by omega) HC.out.symm
            exact ⟨by subst this; rfl, rfl⟩
          · rw [show n % 2 = 1 from by omega] at HS
            have hmi : ((n : Int) % 2 == 0) = false := beq_eq_false_iff_ne.2 (by omega)
            go_wp2
            go_round
            case rel => exact ⟨k + 1, 0, by omega, by omega, rfl, by go_num, HS.behind (by omega)⟩
            case measure => simp [intOf]; omega
        · have b1 : (c == 34) = false := beq_eq_false_iff_ne.2 h34
          have H1 : Hid (¬ c = 34) := h34
          clear h34
          go_wp2
          go_round
          case rel =>
            refine ⟨k + 1, 0, by omega, by omega, rfl, by go_num, ?_⟩
            by_cases hm : n % 2 = 0
            · rw [hm] at HS
              exact HS.other (by omega) (by rw [← HC.out]; exact H1.out) (by rw [← HC.out]; exact H2.out)
            · rw [show n % 2 = 1 from by omega] at HS
              exact HS.behind (by omega)
          case measure => simp [intOf]; omega
    · have hfin : R = len := (HS.done (by omega)).trans (by omega)
      clear HS
      subst hfin
      go_wp2
      go_ret
      exact ⟨rfl, rfl⟩
end Go.Proofs.Qxb6605362a
