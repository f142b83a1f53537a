import Derived.Test.Qxb6605475aOpts
import Derived.BigRegion
import Derived.Deep.RegionWith
import Derived.Deep.DeepCutAuto
namespace Go.Proofs.Qxb6605475a
open Go.RowKit

theorem Try.info38 : (Try.prog.info? 38).map (fun i => (i.zero, i.size, i.bytes)) = some (some (.agg #[.int .u16 0, .slice none 0 0]), 2, 32) := by kernel_rfl

theorem carry {w w2 : World} (hb : Below w.heap.size w w2) {a : Addr} {v : Value} (h : w.cell? a = some v) : w2.cell? a = some v := by
  rw [hb.cell (p := a) (block_lt_of_cell h)]; exact h
theorem carryF {w w2 : World} (hb : Below w.heap.size w w2) {a : Addr} (h : a.block < w.heap.size) (hf : w.frozen? a = false) : w2.frozen? a = false := by
  rw [hb.frozen (p := a) h]; exact hf

theorem carryD {w w2 : World} (hb : Below w.drew.heap.size w.drew w2) {a : Addr} {v : Value} (h : w.cell? a = some v) : w2.cell? a = some v := carry (w := w.drew) hb h
theorem carryFD {w w2 : World} (hb : Below w.drew.heap.size w.drew w2) {a : Addr} (h : a.block < w.heap.size) (hf : w.frozen? a = false) : w2.frozen? a = false := carryF (w := w.drew) hb h hf

/-- The loop of zzCloneOpts: k options stand in the new row. -/
structure Mid (w wr : World) (len k : Nat) (C : Nat → Int) (U : Nat → Value) : Prop where
  below : Below w.heap.size w wr
  row : ∃ X : Array Value, wr.heap[w.heap.size]? = some (.cells X 38 (0, 0)) ∧ X.size = len * 2
  code : ∀ j, j < k → wr.cell? ⟨w.heap.size, j * 2, none⟩ = some (.int .u16 (C j))
  dat : ∀ j, j < k → wr.cell? ⟨w.heap.size, j * 2 + 1, none⟩ = some (U j)
  bytes : ∀ j, j < k → ∃ A n cap, U j = .slice A n cap ∧ n ≤ 1048576 ∧ BsAt (w.heap.size + 1) wr A n ∧ (A = none → n = 0)

theorem Mid.cell {w wr : World} {len k : Nat} {C : Nat → Int} {U : Nat → Value} (h : Mid w wr len k C U) (j : Nat) (hj : j < len * 2) : ∃ x, wr.cell? ⟨w.heap.size, j, none⟩ = some x ∧ wr.frozen? ⟨w.heap.size, j, none⟩ = false := by
  obtain ⟨X, h1, h2⟩ := h.row
  refine ⟨X[j]'(by omega), ?_, ?_⟩
  · simp [World.cell?, h1, Array.getElem?_eq_getElem (show j < X.size by omega)]
  · simp [World.frozen?, h1]

theorem BsAt.nil_len {lo : Nat} {w : World} {A : Option Addr} {n : Nat} (h : BsAt lo w A n) (hA : A = none) : n = 0 := by
  by_cases h0 : n = 0
  · exact h0
  · obtain ⟨b, off, z, h1, _⟩ := h 0 (by omega)
    rw [hA] at h1
    cases h1
theorem BsAt.setCell {B : Nat} {w : World} {A : Option Addr} {n : Nat} (h : BsAt (B + 1) w A n) (i : Nat) (v : Value) : BsAt (B + 1) (w.setCell ⟨B, i, none⟩ v) A n := fun k hk => by
  obtain ⟨b, off, z, h1, h2, h3⟩ := h k hk
  refine ⟨b, off, z, h1, h2, ?_⟩
  rw [World.cell?_setCell_other w ⟨B, i, none⟩ ⟨b, off + k, none⟩ v (fun e => by have := (Addr.mk.inj e).1; omega)]
  exact h3
theorem cs_same (w : World) (a : Addr) (u v : Value) (h : w.cell? a = some u) : (w.setCell a v).cell? a = some v := World.cell?_setCell_same w a v h
theorem cs_off (w : World) (B i j : Nat) (v : Value) (h : i ≠ j) : (w.setCell ⟨B, i, none⟩ v).cell? ⟨B, j, none⟩ = w.cell? ⟨B, j, none⟩ :=
  World.cell?_setCell_other w _ _ v (fun e => h (Addr.mk.inj e).2.1)

theorem row_setCell (w : World) (B i : Nat) (v : Value) {X : Array Value} {t : TypeId} (h : w.heap[B]? = some (.cells X t (0, 0))) :
    ∃ Y : Array Value, (w.setCell ⟨B, i, none⟩ v).heap[B]? = some (.cells Y t (0, 0)) ∧ Y.size = X.size := by
  simp only [World.setCell, Array.getElem?_modify, if_true, h, Option.map_some]
  exact ⟨_, rfl, by simp⟩

theorem Mid.step {w wr w2 : World} {len k n cap' : Nat} {C : Nat → Int} {U : Nat → Value} {A' : Option Addr} {c : Int} (hM : Mid w wr len k C U) (hk : k < len)
    (hbl : Below wr.drew.heap.size wr.drew w2) (hbs : BsAt wr.drew.heap.size w2 A' n) (hn : n ≤ 1048576) (hc : c = C k) :
    Mid w ((w2.setCell ⟨w.heap.size, k * 2, none⟩ (.int .u16 c)).setCell ⟨w.heap.size, k * 2 + 1, none⟩ (.slice A' n cap')) len (k + 1) C (fun j => if j = k then .slice A' n cap' else U j) := by
  obtain ⟨x0, d0, _⟩ := hM.cell (k * 2) (by omega)
  obtain ⟨x1, d1, _⟩ := hM.cell (k * 2 + 1) (by omega)
  have hsz : w.heap.size < wr.heap.size := block_lt_of_cell d0
  have hbl' : Below wr.heap.size wr w2 := ⟨hbl.os, hbl.tape, hbl.output, hbl.size, hbl.block⟩
  have e0 := carry hbl' d0
  have e1 := carry hbl' d1
  refine ⟨?_, ?_, fun j hj => ?_, fun j hj => ?_, fun j hj => ?_⟩
  · exact ((hM.below.trans (hbl'.mono (Nat.le_of_lt hsz))).setCell (Nat.le_refl _) _).setCell (Nat.le_refl _) _
  · obtain ⟨X, h1, h2⟩ := hM.row
    have h3 : w2.heap[w.heap.size]? = some (.cells X 38 (0, 0)) := by rw [hbl'.block _ hsz]; exact h1
    obtain ⟨Y, h4, h5⟩ := row_setCell w2 w.heap.size (k * 2) (.int .u16 c) h3
    obtain ⟨Z, h6, h7⟩ := row_setCell _ w.heap.size (k * 2 + 1) (.slice A' n cap') h4
    exact ⟨Z, h6, by omega⟩
  · rw [cs_off _ _ _ _ _ (by omega)]
    by_cases e : j = k
    · subst e
      rw [cs_same _ _ _ _ e0, hc]
    · rw [cs_off _ _ _ _ _ (by omega)]
      exact carry hbl' (hM.code j (by omega))
  · by_cases e : j = k
    · subst e
      rw [cs_same _ _ x1 _ (by rw [cs_off _ _ _ _ _ (by omega)]; exact e1)]
      simp
    · rw [cs_off _ _ _ _ _ (by omega), cs_off _ _ _ _ _ (by omega), if_neg e]
      exact carry hbl' (hM.dat j (by omega))
  · by_cases e : j = k
    · rw [if_pos e]
      exact ⟨A', n, cap', rfl, hn, ((hbs.lower hsz).setCell _ _).setCell _ _, hbs.nil_len⟩
    · rw [if_neg e]
      obtain ⟨A, m, cp, h1, h2, h3, h4⟩ := hM.bytes j (by omega)
      exact ⟨A, m, cp, h1, h2, ((h3.below hbl').setCell _ _).setCell _ _, h4⟩

theorem Mid.done {w wr : World} {len : Nat} {C : Nat → Int} {U : Nat → Value} (hM : Mid w wr len len C U) : OptsAt (w.heap.size + 1) wr (some ⟨w.heap.size, 0, none⟩) len C U :=
  ⟨fun i hi => ⟨w.heap.size, 0, rfl, by rw [Nat.zero_add]; exact hM.code i hi, by rw [Nat.zero_add]; exact hM.dat i hi⟩,
  fun i hi => by
    obtain ⟨A, n, cap, h1, h2, h3, h4⟩ := hM.bytes i hi
    exact ⟨A, n, cap, h1, by unfold maxLen; omega, h3, h4⟩⟩

set_option maxHeartbeats 2000000 in
set_option maxRecDepth 100000 in
theorem cloneO_row (x : Addr) (len cap : Nat) (C : Nat → Int) (V : Nat → Value) (w : World) (h : OptsAt 0 w (some x) len C V) (hl : len ≤ 32768) (hd : ∀ i, i < len → lenOf (V i) ≤ 1048576) :
    Calls Try.prog 10 #[.slice (some x) len cap] w fun e w' => ∃ U, e = .returned (.slice (some ⟨w.heap.size, 0, none⟩) len len) ∧ OptsAt (w.heap.size + 1) w' (some ⟨w.heap.size, 0, none⟩) len C U ∧ Hid (∀ i, i < len → lenOf (U i) ≤ 1048576) ∧ Below w.heap.size w w' := by
  have hnq := fun (w : World) => Lib.run_eql_slice_nil (P := Try.prog) w 25 38 (some x) len cap 0 0 Try.underlying25
  obtain ⟨i0, hi, hz0, hz1, hz2⟩ := info_parts Try.info38
  go_enter Try.func10, Try.ntmps10
  go_wp2_with (at_make; refine wpList_make_full _ rfl _ _ 25 rfl w.heap.size 38 i0 _ 2 Try.underlying25 hi hz0 hz1 .i64 .i64 _ _ len rfl rfl rfl rfl (by rw [hz2]; omega) (by unfold maxLen; omega) (Nat.le_refl _) ?_; intro w1 hown hgrow)
  have hb1 : Below w.heap.size w w1 := (Below.refl _ _).grown hgrow (Nat.le_refl _) (by simp)
  have hmid : Mid w w1 len 0 C V := by
    refine ⟨hb1, ?_, fun j hj => absurd hj (by omega), fun j hj => absurd hj (by omega), fun j hj => absurd hj (by omega)⟩
    rcases hown.2 with ⟨h1, _⟩ | ⟨g, cp, cur, h1, _, h2, _, _, h3, _⟩
    · simp at h1
    · simp only [Value.slice.injEq, Option.some.injEq, Addr.mk.injEq, and_true, true_and] at h1
      obtain ⟨rfl, rfl⟩ := h1
      exact ⟨cur, h2, h3⟩
  have HD : Hid (∀ i, i < len → lenOf (V i) ≤ 1048576) := hd
  clear hd hown hgrow hb1 hnq
  go_loopw [4] (fun i wr => ∃ (k : Nat) (U : Nat → Value), k ≤ len ∧ i = .int .i64 k ∧ Mid w wr len k C U) (fun i _ => len - (intOf i).toNat)
  case atStart => exact ⟨0, V, Nat.zero_le _, rfl, hmid⟩
  case round =>
    obtain ⟨k, U, hk, rfl, hM⟩ := hrel
    clear hmid
    by_cases hlt : k < len
    · have hw := h.below hM.below
      obtain ⟨b, off, hx, hc, hv⟩ := hw.cell k hlt
      cases hx
      obtain ⟨A, n, cp, hV, _, hbs, hnil⟩ := hw.data k hlt
      have hn : n ≤ 1048576 := by have := HD.out k hlt; rw [hV] at this; exact this
      rw [hV] at hv
      obtain ⟨x0, d0, f0⟩ := hM.cell (k * 2) (by omega)
      obtain ⟨x1, d1, f1⟩ := hM.cell (k * 2 + 1) (by omega)
      have HBS : Hid (BsAt 0 wr A n) := hbs
      have HNIL : Hid (A = none → n = 0) := hnil
      have hsz : w.heap.size < wr.heap.size := block_lt_of_cell d0
      have hlt' : (k : Int) < (len : Int) := by omega
      obtain ⟨c, hcc⟩ : ∃ c, c = C k := ⟨_, rfl⟩
      rw [← hcc] at hc
      have HC : Hid (c = C k) := hcc
      clear hw hV hbs hnil hcc
      go_wp2_with fail
      go_region_with (go_at_call 15; refine (cloneB_any A n cp wr.drew HBS.out hn HNIL.out).mono ?_; rintro e w2 ⟨A', cap', rfl, hbs', hbl⟩; have c0' := carryD hbl hc; have d0' := carryD hbl d0; have d1' := carryD hbl d1; have f0' := carryFD hbl hsz f0; have f1' := carryFD hbl hsz f1)
      all_goals
        go_wp2_with fail
        go_roundw
        case rel => exact ⟨k + 1, _, by omega, by go_num, hM.step hlt hbl hbs' hn HC.out⟩
        case measure => simp [intOf]; omega
    · have hkl : k = len := by omega
      subst hkl
      go_wp2_with fail
      go_ret
      exact ⟨U, rfl, hM.done, fun i hi => by obtain ⟨A, n, cp, h1, h2, _⟩ := hM.bytes i hi; rw [h1]; exact h2, hM.below⟩
end Go.Proofs.Qxb6605475a
