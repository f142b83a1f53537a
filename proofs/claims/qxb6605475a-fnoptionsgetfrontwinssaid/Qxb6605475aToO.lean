import Derived.Test.Qxb6605475aCloneO
namespace Go.Proofs.Qxb6605475a
open Go.RowKit

theorem Try.info43 : (Try.prog.info? 43).map (fun i => (i.zero, i.size, i.bytes)) = some (some (.agg #[.int .u16 0, .slice none 0 0]), 2, 32) := by kernel_rfl

/-- The loop of zzToOptions: k options stand in the new row, behind 'room'. -/
structure Tid (w wr : World) (room len k : Nat) (C : Nat → Int) (V : Nat → Value) : Prop where
  below : Below w.heap.size w wr
  row : ∃ X : Array Value, wr.heap[w.heap.size]? = some (.cells X 43 (0, 0)) ∧ X.size = (room + len) * 2
  code : ∀ j, j < k → wr.cell? ⟨w.heap.size, (room + j) * 2, none⟩ = some (.int .u16 (C j))
  dat : ∀ j, j < k → wr.cell? ⟨w.heap.size, (room + j) * 2 + 1, none⟩ = some (V j)

theorem Tid.cell {w wr : World} {room len k : Nat} {C : Nat → Int} {V : Nat → Value} (h : Tid w wr room len k C V) (j : Nat) (hj : j < (room + len) * 2) : ∃ x, wr.cell? ⟨w.heap.size, j, none⟩ = some x ∧ wr.frozen? ⟨w.heap.size, j, none⟩ = false := by
  obtain ⟨X, h1, h2⟩ := h.row
  refine ⟨X[j]'(by omega), ?_, ?_⟩
  · simp [World.cell?, h1, Array.getElem?_eq_getElem (show j < X.size by omega)]
  · simp [World.frozen?, h1]

theorem Tid.step {w wr : World} {room len k : Nat} {C : Nat → Int} {V : Nat → Value} {c : Int} {v : Value} (hM : Tid w wr room len k C V) (hk : k < len) (hc : c = C k) (hv : v = V k) :
    Tid w ((wr.setCell ⟨w.heap.size, (room + k) * 2, none⟩ (.int .u16 c)).setCell ⟨w.heap.size, (room + k) * 2 + 1, none⟩ v) room len (k + 1) C V := by
  obtain ⟨x0, d0, _⟩ := hM.cell ((room + k) * 2) (by omega)
  obtain ⟨x1, d1, _⟩ := hM.cell ((room + k) * 2 + 1) (by omega)
  refine ⟨?_, ?_, fun j hj => ?_, fun j hj => ?_⟩
  · exact (hM.below.setCell (Nat.le_refl _) _).setCell (Nat.le_refl _) _
  · obtain ⟨X, h1, h2⟩ := hM.row
    obtain ⟨Y, h4, h5⟩ := row_setCell wr w.heap.size ((room + k) * 2) (.int .u16 c) h1
    obtain ⟨Z, h6, h7⟩ := row_setCell _ w.heap.size ((room + k) * 2 + 1) v h4
    exact ⟨Z, h6, by omega⟩
  · rw [cs_off _ _ _ _ _ (by omega)]
    by_cases e : j = k
    · subst e
      rw [cs_same _ _ _ _ d0, hc]
    · rw [cs_off _ _ _ _ _ (by omega)]
      exact hM.code j (by omega)
  · by_cases e : j = k
    · subst e
      rw [cs_same _ _ x1 _ (by rw [cs_off _ _ _ _ _ (by omega)]; exact d1), hv]
    · rw [cs_off _ _ _ _ _ (by omega), cs_off _ _ _ _ _ (by omega)]
      exact hM.dat j (by omega)

theorem Tid.drew {w wr : World} {room len k : Nat} {C : Nat → Int} {V : Nat → Value} (hM : Tid w wr room len k C V) : Tid w wr.drew room len k C V :=
  ⟨hM.below.drew, hM.row, hM.code, hM.dat⟩

set_option maxHeartbeats 2000000 in
set_option maxRecDepth 100000 in
theorem toOpts_any (ao : Option Addr) (room len cap lo : Nat) (C : Nat → Int) (V : Nat → Value) (w : World) (h : OptsAt lo w ao len C V) (hl : len ≤ 32768) (hrm : room ≤ 1) :
    Calls Try.prog 11 #[.slice ao len cap, .int .i64 room] w fun e w' => e = .returned (.slice (some ⟨w.heap.size, 0, none⟩) (room + len) (room + len)) ∧ Tid w w' room len len C V := by
  obtain ⟨i0, hi, hz0, hz1, hz2⟩ := info_parts Try.info43
  go_enter Try.func11, Try.ntmps11
  go_wp2_with (at_make; refine wpList_make_full _ rfl _ _ 31 rfl w.heap.size 43 i0 _ 2 Try.underlying31 hi hz0 hz1 .i64 .i64 _ _ (room + len) rfl rfl (by omega) (by omega) (by rw [hz2]; omega) (by unfold maxLen; omega) (Nat.le_refl _) ?_; intro w1 hown hgrow)
  have hb1 : Below w.heap.size w w1 := (Below.refl _ _).grown hgrow (Nat.le_refl _) (by simp)
  have hmid : Tid w w1 room len 0 C V := by
    refine ⟨hb1, ?_, fun j hj => absurd hj (by omega), fun j hj => absurd hj (by omega)⟩
    rcases hown.2 with ⟨h1, _⟩ | ⟨g, cp, cur, h1, _, h2, _, _, h3, _⟩
    · simp at h1
    · simp only [Value.slice.injEq, Option.some.injEq, Addr.mk.injEq, and_true, true_and] at h1
      obtain ⟨rfl, rfl⟩ := h1
      exact ⟨cur, h2, h3⟩
  clear hown hgrow hb1
  go_loopw [6] (fun i wr => ∃ (k : Nat), k ≤ len ∧ i = .int .i64 k ∧ Tid w wr room len k C V) (fun i _ => len - (intOf i).toNat)
  case atStart => exact ⟨0, Nat.zero_le _, rfl, hmid⟩
  case round =>
    obtain ⟨k, hk, rfl, hM⟩ := hrel
    clear hmid
    by_cases hlt : k < len
    · have hw := h.below hM.below
      obtain ⟨b, off, hx, hc, hv⟩ := hw.cell k hlt
      cases hx
      obtain ⟨A, n, cp, hV, _, _, _⟩ := hw.data k hlt
      have HV : Hid (.slice A n cp = V k) := hV.symm
      rw [hV] at hv
      obtain ⟨x0, d0, f0⟩ := hM.cell ((room + k) * 2) (by omega)
      obtain ⟨x1, d1, f1⟩ := hM.cell ((room + k) * 2 + 1) (by omega)
      have hlt' : (k : Int) < (len : Int) := by omega
      have hlt2 : (room : Int) + (k : Int) < (room : Int) + (len : Int) := by omega
      obtain ⟨c, hcc⟩ : ∃ c, c = C k := ⟨_, rfl⟩
      rw [← hcc] at hc
      have HC : Hid (c = C k) := hcc
      clear hw hV hcc
      go_wp2_with fail
      go_region
      all_goals
        go_wp2_with fail
        go_roundw
        case rel => exact ⟨k + 1, by omega, by go_num, (hM.step hlt HC.out HV.out).drew⟩
        case measure => simp [intOf]; omega
    · have hkl : k = len := by omega
      subst hkl
      go_wp2_with fail
      go_ret
      exact ⟨rfl, hM⟩

theorem Tid.opts0 {w wr : World} {len lo : Nat} {C : Nat → Int} {V : Nat → Value} {ao : Option Addr} (hM : Tid w wr 0 len len C V) (h : OptsAt lo w ao len C V) : OptsAt lo wr (some ⟨w.heap.size, 0, none⟩) len C V :=
  ⟨fun i hi => ⟨w.heap.size, 0, rfl, by have := hM.code i hi; rw [Nat.zero_add] at this ⊢; exact this, by have := hM.dat i hi; rw [Nat.zero_add] at this ⊢; exact this⟩,
  (h.below hM.below).data⟩
end Go.Proofs.Qxb6605475a
