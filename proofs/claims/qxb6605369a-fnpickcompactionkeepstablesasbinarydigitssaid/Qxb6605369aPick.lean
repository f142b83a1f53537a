import Derived.Test.Qxb6605369aRows
import Derived.WalkKit
import Derived.ProofKit
import Derived.WalkSpells
import Derived.WalkLawsBesides
import Derived.Deep.QuietTactic
import Derived.BigQuiet
import Derived.Deep.OwnRows
import Derived.OpenShut
namespace Go.Proofs.Qxb6605369a
open Go.RowKit

/-- A slice of int64 as the callees read it: its numbers, and where their cells lie. -/
structure Rd (w : World) (ao : Option Addr) (len : Nat) (zs : List Int) : Prop where
  hlen : zs.length = len
  cell : ∀ k, k < len → ∃ b, ao = some ⟨b, 0, none⟩ ∧ w.cell? ⟨b, k, none⟩ = some (.int .i64 (zs.getD k 0))

theorem Rd.drewN {w : World} {ao : Option Addr} {len : Nat} {zs : List Int} (h : Rd w ao len zs) (n : Nat) : Rd (w.drewN n) ao len zs :=
  ⟨h.hlen, fun k hk => by obtain ⟨b, h1, h2⟩ := h.cell k hk; exact ⟨b, h1, by simpa using h2⟩⟩

/-- The wrapped sum of the first k sizes. -/
def psum (zs : List Int) : Nat → Int
  | 0 => 0
  | k + 1 => wrap64 (psum zs k + zs.getD k 0)

/-- The newest tables that are taken together: e of them. -/
structure Run (zs : List Int) (e : Nat) : Prop where
  hi : e ≤ zs.length
  ok : ∀ j, 0 < j → j < e → zs.getD j 0 ≤ psum zs j
  stop : e < zs.length → 0 < e ∧ psum zs e < zs.getD e 0

/-- The wrapped sum of two neighbours. -/
def pair (zs : List Int) (i : Nat) : Int := wrap64 (zs.getD i 0 + zs.getD (i + 1) 0)

/-- The newest of the neighbouring pairs with the least sum among the first m. -/
structure Least (zs : List Int) (m f : Nat) : Prop where
  lt : f < m
  le : ∀ i, i < m → pair zs f ≤ pair zs i
  first : ∀ i, i < f → pair zs f < pair zs i

theorem Least.keep {zs : List Int} {m f : Nat} (h : Least zs m f) (hn : ¬ pair zs m < pair zs f) : Least zs (m + 1) f :=
  ⟨by have := h.lt; omega, fun i hi => by
    by_cases e : i = m
    · subst e; omega
    · exact h.le i (by omega), h.first⟩
theorem Least.turn {zs : List Int} {m f : Nat} (h : Least zs m f) (hn : pair zs m < pair zs f) : Least zs (m + 1) m :=
  ⟨by omega, fun i hi => by
    by_cases e : i = m
    · subst e; omega
    · have := h.le i (by omega); omega, fun i hi => by have := h.le i hi; omega⟩

/-- What pickCompaction answers. -/
def PickR (zs : List Int) (f e : Int) (found : Bool) : Prop :=
  ∃ n : Nat, Run zs n ∧
    ((2 ≤ n ∧ f = 0 ∧ e = n ∧ found = true) ∨
     (n < 2 ∧ zs.length ≤ 8 ∧ f = 0 ∧ e = 0 ∧ found = false) ∨
     (n < 2 ∧ 8 < zs.length ∧ ∃ m : Nat, Least zs (zs.length - 1) m ∧ f = m ∧ e = m + 2 ∧ found = true))

def PickE (zs : List Int) (e : Ending) : Prop := ∃ (f en : Int) (fd : Bool), e = .returned (.tuple #[.int .i64 f, .int .i64 en, .bool fd]) ∧ PickR zs f en fd

set_option maxHeartbeats 2000000 in
set_option maxRecDepth 100000 in
theorem pick_any (ao : Option Addr) (len cap : Nat) (zs : List Int) (w : World) (hr : Rd w ao len zs) (hl : len ≤ 1048576) :
    Calls Try.prog 13 #[.slice ao len cap] w fun e w' => PickE zs e ∧ ∃ n, w' = w.drewN n := by
  have hzl := hr.hlen
  go_enter Try.func13, Try.ntmps13
  go_wp2
  go_loop [3, 5] (fun t s => ∃ k : Nat, k ≤ len ∧ t = .int .i64 k ∧ s = .int .i64 (psum zs k) ∧ Hid (∀ j, 0 < j → j < k → zs.getD j 0 ≤ psum zs j)) (fun t _ => len - (intOf t).toNat)
  case atStart => exact ⟨0, Nat.zero_le _, rfl, rfl, fun j h1 h2 => absurd h2 (by omega)⟩
  case round =>
    obtain ⟨k, hk, rfl, rfl, hok⟩ := hrel
    by_cases hgo : k < len ∧ (k = 0 ∨ zs.getD k 0 ≤ psum zs k)
    · obtain ⟨hlt, hle⟩ := hgo
      have hok' : Hid (∀ j, 0 < j → j < k + 1 → zs.getD j 0 ≤ psum zs j) := fun j h1 h2 => by
        by_cases e : j = k
        · rw [e]; omega
        · exact hok.out j h1 (by omega)
      have hps : Hid (psum zs (k + 1) = wrap64 (psum zs k + zs.getD k 0)) := rfl
      obtain ⟨b, rfl, hc⟩ := hr.cell k hlt
      have hlt' : (k : Int) < (len : Int) := by omega
      generalize zs.getD k 0 = z at *
      generalize psum zs k = s at *
      by_cases hk0 : k = 0
      · subst hk0
        go_wp2
        go_round
        case rel => exact ⟨1, by omega, rfl, by rw [hps.out], hok'⟩
        case measure => simp [intOf]; omega
      · have hb0 : ((k : Int) == 0) = false := beq_eq_false_iff_ne.2 (by omega)
        have hle' : z ≤ s := by omega
        go_wp2
        go_round
        case rel => exact ⟨k + 1, by omega, by go_num, by rw [hps.out], hok'⟩
        case measure => simp [intOf]; omega
    · have hrun : Run zs k := ⟨by omega, hok.out, fun h => by omega⟩
      have hex : k = len ∨ (k < len ∧ ¬ k = 0 ∧ ¬ zs.getD k 0 ≤ psum zs k) := by omega
      clear hgo hok
      by_cases h2 : 2 ≤ k
      · rcases hex with rfl | ⟨hlt, hk0, hle⟩
        · go_wp2
          go_ret3
          exact ⟨⟨_, _, _, rfl, k, hrun, .inl ⟨h2, rfl, rfl, rfl⟩⟩, 0, rfl⟩
        · obtain ⟨b, rfl, hc⟩ := hr.cell k hlt
          have hlt' : (k : Int) < (len : Int) := by omega
          have hb0 : ((k : Int) == 0) = false := beq_eq_false_iff_ne.2 (by omega)
          generalize zs.getD k 0 = z at *
          generalize psum zs k = s at *
          go_wp2
          go_ret3
          exact ⟨⟨_, _, _, rfl, k, hrun, .inl ⟨h2, rfl, rfl, rfl⟩⟩, 0, rfl⟩
      · by_cases h8 : len ≤ 8
        · rcases hex with rfl | ⟨hlt, hk0, hle⟩
          · go_wp2
            go_ret3
            exact ⟨⟨_, _, _, rfl, k, hrun, .inr (.inl ⟨by omega, by omega, rfl, rfl, rfl⟩)⟩, 0, rfl⟩
          · obtain ⟨b, rfl, hc⟩ := hr.cell k hlt
            have hlt' : (k : Int) < (len : Int) := by omega
            have hb0 : ((k : Int) == 0) = false := beq_eq_false_iff_ne.2 (by omega)
            generalize zs.getD k 0 = z at *
            generalize psum zs k = s at *
            go_wp2
            go_ret3
            exact ⟨⟨_, _, _, rfl, k, hrun, .inr (.inl ⟨by omega, by omega, rfl, rfl, rfl⟩)⟩, 0, rfl⟩
        · obtain ⟨hlt, hk0, hle⟩ : k < len ∧ ¬ k = 0 ∧ ¬ zs.getD k 0 ≤ psum zs k := by omega
          have hk1 : k = 1 := by omega
          subst hk1
          obtain ⟨b, rfl, hc⟩ := hr.cell 1 hlt
          have hlt' : (1 : Int) < (len : Int) := by omega
          have h8' : decide ((len : Int) ≤ 8) = false := decide_eq_false (by omega)
          generalize zs.getD 1 0 = z at *
          generalize psum zs 1 = s at *
          have hrun' : Hid (Run zs 1) := hrun
          clear hrun
          go_wp2
          clear hc hle hlt' hlt
          go_loopw [2, 6] (fun f i wr => ∃ fn m nq : Nat, 1 ≤ m ∧ m + 1 ≤ len ∧ f = .int .i64 fn ∧ i = .int .i64 m ∧ Least zs m fn ∧ wr = w.drewN nq) (fun _ i _ => len - (intOf i).toNat)
          case atStart => exact ⟨0, 1, 0, by omega, by omega, rfl, rfl, ⟨by omega, fun i hi => by rw [show i = 0 from by omega]; exact Int.le_refl _, fun i hi => absurd hi (by omega)⟩, rfl⟩
          case round =>
            obtain ⟨fn, m, nq, hm1, hm2, rfl, rfl, hL, rfl⟩ := hrel
            have hfm := hL.lt
            by_cases hgo : m + 1 < len
            · obtain ⟨b1, e1, c1⟩ := hr.cell m (by omega)
              cases e1
              obtain ⟨b1, e1, c2⟩ := hr.cell (m + 1) (by omega)
              cases e1
              obtain ⟨b1, e1, c3⟩ := hr.cell fn (by omega)
              cases e1
              obtain ⟨b1, e1, c4⟩ := hr.cell (fn + 1) (by omega)
              cases e1
              have hpm : Hid (pair zs m = wrap64 (zs.getD m 0 + zs.getD (m + 1) 0)) := rfl
              have hpf : Hid (pair zs fn = wrap64 (zs.getD fn 0 + zs.getD (fn + 1) 0)) := rfl
              generalize zs.getD m 0 = z1 at *
              generalize zs.getD (m + 1) 0 = z2 at *
              generalize zs.getD fn 0 = z3 at *
              generalize zs.getD (fn + 1) 0 = z4 at *
              have hi1 : (m : Int) < (len : Int) - 1 := by omega
              have hi2 : (m : Int) < (len : Int) := by omega
              have hi3 : (m : Int) + 1 < (len : Int) := by omega
              have hi4 : (fn : Int) < (len : Int) := by omega
              have hi5 : (fn : Int) + 1 < (len : Int) := by omega
              by_cases hpl : wrap64 (z1 + z2) < wrap64 (z3 + z4)
              · have hL' := hL.turn (by rw [hpm.out, hpf.out]; exact hpl)
                go_wp2
                go_quiet (fail)
                go_wp2
                go_roundw
                case rel => exact ⟨m, m + 1, _, by omega, by omega, rfl, by go_num, hL', rfl⟩
                case measure => simp [intOf]; omega
              · have hL' := hL.keep (by rw [hpm.out, hpf.out]; exact hpl)
                go_wp2
                go_quiet (fail)
                go_wp2
                go_roundw
                case rel => exact ⟨fn, m + 1, _, by omega, by omega, rfl, by go_num, hL', rfl⟩
                case measure => simp [intOf]; omega
            · go_wp2
              go_ret3
              exact ⟨⟨_, _, _, rfl, 1, hrun'.out, .inr (.inr ⟨by omega, by omega, fn, by rw [show zs.length - 1 = m from by omega]; exact hL, rfl, rfl, rfl⟩)⟩, nq, rfl⟩
end Go.Proofs.Qxb6605369a
