import Derived.Test.Qxb6605369aClone
import Derived.Maps.AppendAt
namespace Go.Proofs.Qxb6605369a
open Go.RowKit

theorem Rd.below {w w' : World} {ao : Option Addr} {len : Nat} {zs : List Int} (h : Rd w ao len zs) (hb : Below w.heap.size w w') : Rd w' ao len zs :=
  ⟨h.hlen, fun k hk => by
    obtain ⟨b, h1, h2⟩ := h.cell k hk
    exact ⟨b, h1, by rw [hb.cell (p := ⟨b, k, none⟩) (block_lt_of_cell h2)]; exact h2⟩⟩

/-- The cells of a row of numbers. -/
def vals (xs : List Int) : List Value := xs.map (Value.int .i64)

theorem rd_owns {w : World} {B g n cap : Nat} {xs : List Int} (h : w.ownsRow B 2 1 (.slice (some ⟨g, 0, none⟩) n cap) n (vals xs)) : Rd w (some ⟨g, 0, none⟩) n xs := by
  have hl : xs.length = n := by have := h.1; simpa [vals] using this
  refine ⟨hl, fun k hk => ⟨g, rfl, ?_⟩⟩
  rw [h.cellAt k (by omega)]
  have hk' : k < xs.length := by omega
  simp [vals, List.getD, List.getElem?_eq_getElem hk']

/-- What zzMerge answers: the first e tables made one. -/
def MergeE (zs : List Int) (e : Nat) (r : Ending) (w w' : World) : Prop :=
  ∃ b cp, r = .returned (.slice (some ⟨b, 0, none⟩) (zs.length - e + 1) cp) ∧ Rd w' (some ⟨b, 0, none⟩) (zs.length - e + 1) (psum zs e :: zs.drop e) ∧ Below w.heap.size w w'

theorem one_cell (z : Int) : ∀ u ∈ [Value.int .i64 z], u.oneCell' = true := by
  intro u hu
  simp at hu
  subst hu
  rfl

theorem drop_take_succ (zs : List Int) (e q : Nat) (hi : e + q < zs.length) : (zs.drop e).take (q + 1) = (zs.drop e).take q ++ [zs.getD (e + q) 0] := by
  rw [List.take_succ_eq_append_getElem (by simp; omega)]
  simp [List.getD, List.getElem?_eq_getElem hi]

set_option maxHeartbeats 2000000 in
set_option maxRecDepth 100000 in
theorem merge_any (ao : Option Addr) (len cap : Nat) (zs : List Int) (e : Nat) (w : World) (hr : Rd w ao len zs) (he : e ≤ len) (hl : len ≤ 1048576) :
    Calls Try.prog 9 #[.slice ao len cap, .int .i64 0, .int .i64 e] w fun r w' => MergeE zs e r w w' := by
  have hzl := hr.hlen
  obtain ⟨i0, hi, hz0, hz1, hz2⟩ := info_parts Try.info2
  go_enter Try.func9, Try.ntmps9
  go_wp2_with (first | (at_make; refine wpList_make_own _ rfl _ _ 22 rfl w.heap.size 2 i0 (.int .i64 0) 1 Try.underlying22 hi hz0 hz1 .i64 .i64 _ (len - e + 1) rfl rfl (by omega) (by rw [hz2]; omega) (by unfold maxLen; omega) (Nat.le_refl _) ?_; intro w1 hown hgrow) | fail)
  have hb1 : Below w.heap.size w w1 := (Below.refl _ _).grown hgrow (Nat.le_refl _) (by simp)
  clear hgrow
  refine wp_loop_rounds 1 ?_
  rw [rounds_succ]
  go_wp2_with fail
  have hr1 := hr.below hb1
  go_loop [9, 10] (fun s i => ∃ k : Nat, k ≤ e ∧ i = .int .i64 k ∧ s = .int .i64 (psum zs k)) (fun _ i => e - (intOf i).toNat)
  case atStart => exact ⟨0, Nat.zero_le _, rfl, rfl⟩
  case round =>
    obtain ⟨k, hk, rfl, rfl⟩ := hrel
    by_cases hke : k < e
    · obtain ⟨b, hbb, hc⟩ := hr1.cell k (by omega)
      subst hbb
      have hlt' : (k : Int) < (len : Int) := by omega
      have hps : Hid (psum zs (k + 1) = wrap64 (psum zs k + zs.getD k 0)) := rfl
      generalize zs.getD k 0 = z at *
      generalize psum zs k = s at *
      go_wp2_with fail
      go_round
      case rel => exact ⟨k + 1, by omega, by go_num, by rw [hps.out]⟩
      case measure => simp [intOf]; omega
    · have hke' : e = k := by omega
      subst hke'
      obtain ⟨s, hs⟩ : ∃ s, s = psum zs e := ⟨_, rfl⟩
      rw [← hs]
      have HS : Hid (s = psum zs e) := hs
      clear hs
      go_wp2_with (first | (at_builtin; refine wpList_append_fits _ rfl _ _ 22 rfl w.heap.size 2 i0 1 Try.underlying22 hi hz1 w.heap.size 0 (len - e + 1) [] rfl (hown.alloc _) ⟨w1.heap.size, 0, none⟩ 1 1 [.int .i64 s] rfl rfl (cell_one_new _ _ _) (one_cell _) (by omega) ?_; intro w2 hown2 hgrow2) | fail)
      have hb2 : Below w.heap.size w w2 := (hb1.alloc hb1.size _).grown hgrow2 (by have := hb1.size; simp; omega) (by intro k hk; simp at hk; omega)
      clear hown hgrow2 hr1 hb1
      have hown3 : w2.ownsRow w.heap.size 2 1 (.slice (some ⟨w.heap.size, 0, none⟩) (0 + 1) (len - e + 1)) (0 + 1) (vals (s :: (zs.drop e).take 0)) := by simpa [vals] using hown2
      clear hown2
      go_loopw [7, 11] (fun out i wr => ∃ q : Nat, e + q ≤ len ∧ i = .int .i64 ((e : Int) + (q : Int)) ∧ out = .slice (some ⟨w.heap.size, 0, none⟩) (q + 1) (len - e + 1) ∧ wr.ownsRow w.heap.size 2 1 (.slice (some ⟨w.heap.size, 0, none⟩) (q + 1) (len - e + 1)) (q + 1) (vals (s :: (zs.drop e).take q)) ∧ Below w.heap.size w wr) (fun _ i _ => len - (intOf i).toNat)
      case atStart => exact ⟨0, by omega, by simp, rfl, hown3, hb2⟩
      case round =>
        obtain ⟨q, hq, rfl, rfl, hown, hb⟩ := hrel
        clear hown3 hb2
        by_cases hql : e + q < len
        · have hrr := hr.below hb
          obtain ⟨b, hbb, hc⟩ := hrr.cell (e + q) hql
          subst hbb
          have hlt' : (e : Int) + (q : Int) < (len : Int) := by omega
          have htk := drop_take_succ zs e q (by omega)
          obtain ⟨z, hz⟩ : ∃ z, z = zs.getD (e + q) 0 := ⟨_, rfl⟩
          rw [← hz] at hc htk
          have HT : Hid ((zs.drop e).take (q + 1) = (zs.drop e).take q ++ [z]) := htk
          clear hz htk hrr
          go_wp2_with (first | (at_builtin; refine wpList_append_fits _ rfl _ _ 22 rfl w.heap.size 2 i0 1 Try.underlying22 hi hz1 w.heap.size (q + 1) (len - e + 1) (vals (s :: (zs.drop e).take q)) rfl (hown.alloc _) ⟨wr.heap.size, 0, none⟩ 1 1 [.int .i64 z] rfl rfl (cell_one_new _ _ _) (one_cell _) (by omega) ?_; intro w3 hown3 hgrow3) | fail)
          have hb3 : Below w.heap.size w w3 := (hb.alloc hb.size _).grown hgrow3 (by have := hb.size; simp; omega) (by intro k hk; simp at hk; omega)
          go_roundw
          case rel =>
            refine ⟨q + 1, by omega, by go_num, rfl, ?_, hb3⟩
            rw [HT.out]
            simpa [vals] using hown3
          case measure => simp [intOf]; omega
        · go_wp2_with fail
          go_ret
          have hqe : zs.length - e = q := by omega
          have htk : (zs.drop e).take q = zs.drop e := List.take_of_length_le (by simp; omega)
          rw [htk, HS.out] at hown
          refine ⟨w.heap.size, len - e + 1, by rw [hqe]; rfl, ?_, hb⟩
          rw [hqe]
          exact rd_owns hown
end Go.Proofs.Qxb6605369a
