import Derived.Test.Qxb6605475aOpts
import Derived.ChangeOld
import Derived.Deep.SlicePairs
namespace Go.Proofs.Qxb6605475a
open Go.ChangeShapes Go.WideShapes Go.ChangeAt Go.RowKit

theorem Try.cells26 : Try.prog.cellsOf 26 = 1 := by kernel_rfl
theorem Try.cells33 : Try.prog.cellsOf 33 = 1 := by kernel_rfl
theorem Try.cells5 : Try.prog.cellsOf 5 = 1 := by kernel_rfl

/-- A slice of bytes that came in. -/
theorem open_bytes {H : Type} {enc : TypeId × Value → H} {W : World} {fuel : Nat} {v : Value} {x : DataW H × List MemPlace}
    (hf : DataW.trod enc Try.prog W 0 (fun _ => true) true fuel 33 [v] = some x) :
    ∃ A n cap, v = .slice A n cap ∧ n ≤ maxLen ∧ BsAt 0 W A n ∧ (A = none → n = 0 ∧ cap = 0) := by
  rcases open_ints Try.underlying33 Try.underlying5 Try.cells5 hf with ⟨hcs, _⟩ | ⟨a, l, c, zs, hcs, _, hl, hm, hz, _, hcell, _⟩
  · simp at hcs
    subst hcs
    exact ⟨none, 0, 0, rfl, Nat.zero_le _, BsAt.nil _ _ _, fun _ => ⟨rfl, rfl⟩⟩
  · simp at hcs
    subst hcs
    refine ⟨some a, l, c, rfl, by omega, fun k hk => ?_, fun h => by cases h⟩
    obtain ⟨b, off, rfl, h2⟩ := ints_at hcell (by simp at hz; omega)
    exact ⟨b, off, _, rfl, Nat.zero_le _, h2 k (by simp at hz; omega)⟩

theorem open_opts {H : Type} {enc : TypeId × Value → H} {W : World} {fuel : Nat} {v : Value} {x : DataW H × List MemPlace}
    (hf : DataW.trod enc Try.prog W 0 (fun _ => true) true fuel 25 [v] = some x) :
    ∃ ao len cap C V, v = .slice ao len cap ∧ OptsAt 0 W ao len C V ∧ (ao = none → len = 0 ∧ cap = 0) ∧ len ≤ maxLen := by
  rcases Deep.open_slice_pairs Try.underlying25 Try.underlying38 (by kernel_rfl) rfl rfl Try.cells26 Try.cells33 hf with ⟨hcs, _⟩ | ⟨a, len, cap, m, n, V0, V1, D0, D1, P0, P1, hcs, _, hl, hm, hmm, _, hcell⟩
  · simp at hcs
    subst hcs
    exact ⟨none, 0, 0, fun _ => 0, fun _ => .slice none 0 0, rfl, ⟨fun i hi => absurd hi (by omega), fun i hi => absurd hi (by omega)⟩, fun _ => ⟨rfl, rfl⟩, Nat.zero_le _⟩
  · simp at hcs
    subst hcs
    simp at hmm
    subst hmm
    refine ⟨some a, len, m, fun i => intOf (V0 i), V1, rfl, ⟨fun i hi => ?_, fun i hi => ?_⟩, fun h => (by cases h), by omega⟩
    · obtain ⟨h1, h2, h3, h4⟩ := hcell i (by omega)
      obtain ⟨c, hc, _⟩ := DataW.trod_int Try.underlying26 h3
      simp at hc
      obtain ⟨b, off, spot⟩ := a
      have hspot : spot = none := by
        have h0 := (hcell 0 (by omega)).1
        simpa [Addr.add] using World.cell?_spot h0
      subst hspot
      rw [add_plain] at h1 h2
      refine ⟨b, off, rfl, ?_, ?_⟩
      · rw [h1, hc]; rfl
      · rw [Nat.add_assoc]; exact h2
    · obtain ⟨h1, h2, h3, h4⟩ := hcell i (by omega)
      obtain ⟨A, n, cp, e1, e2, e3, e4⟩ := open_bytes h4
      exact ⟨A, n, cp, e1, e2, e3, fun h => (e4 h).1⟩
end Go.Proofs.Qxb6605475a
