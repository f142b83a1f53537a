import Derived.Test.Qxb6605369aClone
namespace Go.Proofs.Qxb6605369a
open Go.RowKit

theorem draws_add (w : World) (a b : Nat) : (w.drewN a).drewN b = w.drewN (a + b) := by simp

theorem psum_one (zs : List Int) (h0 : -9223372036854775808 ≤ zs.getD 0 0) (h1 : zs.getD 0 0 ≤ 9223372036854775807) : psum zs 1 = zs.getD 0 0 := by
  show wrap64 (0 + zs.getD 0 0) = _
  unfold wrap64
  omega

theorem Run.two {zs : List Int} {n : Nat} (h : Run zs n) (h0 : -9223372036854775808 ≤ zs.getD 0 0) (h1 : zs.getD 0 0 ≤ 9223372036854775807) (hl : 2 ≤ zs.length) (hle : zs.getD 1 0 ≤ zs.getD 0 0) : 2 ≤ n := by
  have hp := psum_one zs h0 h1
  by_cases hn : 2 ≤ n
  · exact hn
  · exfalso
    obtain ⟨h2, h3⟩ := h.stop (by omega)
    have e : n = 1 := by omega
    subst e
    omega

theorem Run.one {zs : List Int} {n : Nat} (h : Run zs n) (h0 : -9223372036854775808 ≤ zs.getD 0 0) (h1 : zs.getD 0 0 ≤ 9223372036854775807) (hn : ¬ (2 ≤ zs.length ∧ zs.getD 1 0 ≤ zs.getD 0 0)) : n < 2 := by
  have hp := psum_one zs h0 h1
  by_cases h2 : 2 ≤ n
  · exfalso
    have := h.hi
    have h3 := h.ok 1 (by omega) (by omega)
    exact hn ⟨by omega, by omega⟩
  · omega

set_option maxHeartbeats 4000000 in
set_option maxRecDepth 100000 in
theorem matchRow (x : Addr) (len cap : Nat) (z0 : List Int) (w : World) (hlc : len ≤ cap) (hz : z0.length = cap) (hc : ∀ i, i < z0.length → w.cell? (x.add i) = some (.int .i64 (z0.getD i 0)))
    (hwz : ∀ n ∈ z0, (Lit.int .i64 n).wf = true) (hl : len ≤ 131072) :
    Calls Try.prog 3 #[.slice (some x) len cap] w fun e w' => e = .returned (.bool true) ∧ Below w.heap.size w w' := by
  have hzl : (z0.take len).length = len := by simp; omega
  have hr := rd_alloc w (z0.take len)
  rw [hzl] at hr
  have hb : Below w.heap.size w (w.alloc (.cells (i64Cells (z0.take len)) 2)) := (Below.refl _ _).alloc (Nat.le_refl _) _
  have hrange : ∀ j, -9223372036854775808 ≤ (z0.take len).getD j 0 ∧ (z0.take len).getD j 0 ≤ 9223372036854775807 := fun j => by
    by_cases hj : j < (z0.take len).length
    · have hm : (z0.take len)[j] ∈ z0 := List.mem_of_mem_take (List.getElem_mem hj)
      have := bounds_i64 (hwz _ hm)
      simp only [List.getD, List.getElem?_eq_getElem hj, Option.getD_some]
      omega
    · simp [List.getD, List.getElem?_eq_none (Nat.le_of_not_lt hj)]
  have hcl := clone_row x len cap z0 w hlc hz hc (by omega)
  generalize z0.take len = zs at *
  have HR : Hid (∀ j, -9223372036854775808 ≤ zs.getD j 0 ∧ zs.getD j 0 ≤ 9223372036854775807) := hrange
  have HCL : Hid (Calls Try.prog 7 #[.slice (some x) len cap] w fun e w' => e = .returned (.slice (some ⟨w.heap.size, 0, none⟩) len len) ∧ w' = w.alloc (.cells (i64Cells zs) 2)) := hcl
  clear hrange hc hwz hcl
  have hbig : len ≤ 1048576 := by omega
  go_enter Try.func3, Try.ntmps3
  go_wp2_with (first | (go_at_call 6; refine (zzBytesPick_any _ _ _ _ (by unfold maxLen; omega)).mono ?_; rintro e W0 ⟨rfl, rfl⟩) | fail)
  refine HCL.out.mono ?_
  rintro e w2 ⟨rfl, rfl⟩
  go_wp2_with fail
  refine (zzPick_any _ _ _ zs _ hr (by omega)).mono ?_
  rintro e w2 ⟨⟨f, en, fd, rfl, n, hrun, hcs⟩, nq, rfl⟩
  have hrn := hr.drewN nq
  have hbn := below_drewN hb nq
  clear HCL hr hb
  generalize (W0.alloc (.cells (i64Cells zs) 2)).drewN nq = W at *
  by_cases hA : 2 ≤ len ∧ zs.getD 1 0 ≤ zs.getD 0 0
  · obtain ⟨hA1, hA2⟩ := hA
    have hn2 := hrun.two (HR.out 0).1 (HR.out 0).2 (by omega) hA2
    rcases hcs with ⟨_, rfl, rfl, rfl⟩ | ⟨h, _⟩ | ⟨h, _⟩
    · obtain ⟨b1, e1, c0⟩ := hrn.cell 0 (by omega)
      cases e1
      obtain ⟨b1, e1, c1⟩ := hrn.cell 1 (by omega)
      cases e1
      have hi0 : (0 : Int) < (len : Int) := by omega
      have hi1 : (1 : Int) < (len : Int) := by omega
      have hi2 : (2 : Int) ≤ (len : Int) := by omega
      have hhi := hrun.hi
      generalize zs.getD 0 0 = y0 at c0 hA2
      generalize zs.getD 1 0 = y1 at c1 hA2
      go_wp2
      go_quiet (fail)
      go_wp2
      have hrm := hrn.drewN nq
      have hbm := below_drewN hbn nq
      generalize W.drewN nq = V at *
      clear hrn hbn c0 c1
      go_loop [7, 8] (fun s j => ∃ k : Nat, k ≤ n ∧ j = .int .i64 k ∧ s = .int .i64 (psum zs k)) (fun _ j => n - (intOf j).toNat)
      case atStart => exact ⟨0, Nat.zero_le _, rfl, rfl⟩
      case round =>
        obtain ⟨k, hk, rfl, rfl⟩ := hrel
        by_cases hkn : k < n
        · obtain ⟨b1, e1, ck⟩ := hrm.cell k (by omega)
          cases e1
          have hik : (k : Int) < (len : Int) := by omega
          have hps : Hid (psum zs (k + 1) = wrap64 (psum zs k + zs.getD k 0)) := rfl
          by_cases hk0 : k = 0
          · subst hk0
            generalize zs.getD 0 0 = z at *
            generalize psum zs 0 = s at *
            go_wp2
            go_round
            case rel => exact ⟨1, by omega, rfl, by rw [hps.out]⟩
            case measure => simp [intOf]; omega
          · have hok := hrun.ok k (by omega) hkn
            have hkp : (0 : Int) < (k : Int) := by omega
            generalize zs.getD k 0 = z at *
            generalize psum zs k = s at *
            go_wp2
            refine ⟨⟨_, _, _, ⟨k + 1, by omega, by go_num, by rw [hps.out]⟩, rfl, rfl, rfl⟩, ?_⟩
            simp [intOf]; omega
        · have hkn' : k = n := by omega
          subst hkn'
          by_cases hend : k < len
          · obtain ⟨b1, e1, ck⟩ := hrm.cell k hend
            cases e1
            have hst := (hrun.stop (by omega)).2
            have hik : (k : Int) < (len : Int) := by omega
            have hbe : ((k : Int) == (len : Int)) = false := beq_eq_false_iff_ne.2 (by omega)
            generalize zs.getD k 0 = z at *
            generalize psum zs k = s at *
            go_wp2
            go_ret
            exact ⟨rfl, hbm⟩
          · have hbe : ((k : Int) == (len : Int)) = true := beq_iff_eq.2 (by omega)
            go_wp2
            go_ret
            exact ⟨rfl, hbm⟩
    · omega
    · omega
  · have hn1 := hrun.one (HR.out 0).1 (HR.out 0).2 (by rw [hzl]; exact hA)
    by_cases h8 : len ≤ 8
    · rcases hcs with ⟨h, _⟩ | ⟨_, _, rfl, rfl, rfl⟩ | ⟨_, h, _⟩
      · omega
      · by_cases h2 : 2 ≤ len
        · obtain ⟨b1, e1, c0⟩ := hrn.cell 0 (by omega)
          cases e1
          obtain ⟨b1, e1, c1⟩ := hrn.cell 1 (by omega)
          cases e1
          have hi0 : (0 : Int) < (len : Int) := by omega
          have hi1 : (1 : Int) < (len : Int) := by omega
          have hi2 : (2 : Int) ≤ (len : Int) := by omega
          have hA2 : ¬ zs.getD 1 0 ≤ zs.getD 0 0 := fun h => hA ⟨h2, h⟩
          clear hA
          generalize zs.getD 0 0 = y0 at c0 hA2
          generalize zs.getD 1 0 = y1 at c1 hA2
          go_wp2
          go_quiet (fail)
          go_wp2
          go_ret
          exact ⟨rfl, below_drewN hbn _⟩
        · have hd : decide ((2 : Int) ≤ (len : Int)) = false := decide_eq_false (by omega)
          clear hA
          go_wp2
          go_quiet (fail)
          go_wp2
          go_ret
          exact ⟨rfl, below_drewN hbn _⟩
      · omega
    · rcases hcs with ⟨h, _⟩ | ⟨_, h, _⟩ | ⟨_, _, m, hL, rfl, rfl, rfl⟩
      · omega
      · omega
      · obtain ⟨b1, e1, c0⟩ := hrn.cell 0 (by omega)
        cases e1
        obtain ⟨b1, e1, c1⟩ := hrn.cell 1 (by omega)
        cases e1
        have hm := hL.lt
        obtain ⟨b1, e1, c2⟩ := hrn.cell m (by omega)
        cases e1
        obtain ⟨b1, e1, c3⟩ := hrn.cell (m + 1) (by omega)
        cases e1
        have hi0 : (0 : Int) < (len : Int) := by omega
        have hi1 : (1 : Int) < (len : Int) := by omega
        have hi2 : (2 : Int) ≤ (len : Int) := by omega
        have hi3 : (m : Int) < (len : Int) := by omega
        have hi4 : (m : Int) + 1 < (len : Int) := by omega
        have hA2 : ¬ zs.getD 1 0 ≤ zs.getD 0 0 := fun h => hA ⟨by omega, h⟩
        have hpm : Hid (pair zs m = wrap64 (zs.getD m 0 + zs.getD (m + 1) 0)) := rfl
        clear hA
        generalize zs.getD 0 0 = y0 at c0 hA2
        generalize zs.getD 1 0 = y1 at c1 hA2
        generalize zs.getD m 0 = y2 at c2 hpm
        generalize zs.getD (m + 1) 0 = y3 at c3 hpm
        go_wp2
        go_quiet (fail)
        go_wp2
        go_quiet (fail)
        go_wp2
        clear c0 c1 c2 c3 hA2
        go_loopw [10] (fun i wr => ∃ k q : Nat, k + 1 ≤ len ∧ i = .int .i64 k ∧ wr = W.drewN q) (fun i _ => len - (intOf i).toNat)
        case atStart => exact ⟨0, _, by omega, rfl, draws_add _ _ _⟩
        case round =>
          obtain ⟨k, q, hk, rfl, rfl⟩ := hrel
          by_cases hkl : k + 1 < len
          · obtain ⟨b1, e1, d0⟩ := hrn.cell k (by omega)
            cases e1
            obtain ⟨b1, e1, d1⟩ := hrn.cell (k + 1) (by omega)
            cases e1
            have hj0 : (k : Int) < (len : Int) := by omega
            have hj1 : (k : Int) + 1 < (len : Int) := by omega
            have hpk : Hid (pair zs k = wrap64 (zs.getD k 0 + zs.getD (k + 1) 0)) := rfl
            have hle := hL.le k (by omega)
            have hfi := hL.first k
            rw [hpm.out] at hle hfi
            rw [hpk.out] at hle hfi
            clear hpk
            generalize zs.getD k 0 = z1 at *
            generalize zs.getD (k + 1) 0 = z2 at *
            have hnl : ¬ wrap64 (z1 + z2) < wrap64 (y2 + y3) := by omega
            by_cases hkm : k < m
            · have hfk := hfi hkm
              have hne : (wrap64 (z1 + z2) == wrap64 (y2 + y3)) = false := beq_eq_false_iff_ne.2 (by omega)
              clear hfi hle hfk
              go_wp2
              go_quiet (fail)
              go_wp2
              go_roundw
              case rel => exact ⟨k + 1, _, by omega, by go_num, rfl⟩
              case measure => simp [intOf]; omega
            · clear hfi hle
              go_wp2
              go_quiet (fail)
              go_wp2
              go_roundw
              case rel => exact ⟨k + 1, _, by omega, by go_num, rfl⟩
              case measure => simp [intOf]; omega
          · go_wp2
            go_ret
            exact ⟨rfl, below_drewN hbn _⟩

set_option maxHeartbeats 1000000 in
set_option maxRecDepth 100000 in
theorem matchMain (a0 : Option Addr) (len0 cap0 : Nat) (z0 : List Int) (w : World) (w0 : IsRow .i64 w a0 len0 cap0 z0) :
    Calls Try.prog 3 #[.slice a0 len0 cap0] w fun e w' => e = .returned (.bool true) ∧ Below w.heap.size w w' := by
  by_cases hl : len0 ≤ 131072
  · rcases w0 with ⟨rfl, rfl, rfl, rfl⟩ | ⟨x, rfl, hlc, hcm, hz, hc, hwz⟩
    · have hr := rd_nil w
      go_enter Try.func3, Try.ntmps3
      go_wp2_with (first | (go_at_call 6; refine (zzBytesPick_any _ _ _ _ (by unfold maxLen; omega)).mono ?_; rintro e W0 ⟨rfl, rfl⟩) | (go_at_call 7; refine (clone_nil _).mono ?_; rintro e W1 ⟨rfl, rfl⟩) | fail)
      refine (zzPick_any _ _ _ [] _ hr (by omega)).mono ?_
      rintro e w2 ⟨⟨f, en, fd, rfl, n, hrun, hcs⟩, nq, rfl⟩
      have hn := hrun.hi
      rcases hcs with ⟨h, _⟩ | ⟨_, _, rfl, rfl, rfl⟩ | ⟨_, h, _⟩
      · simp at hn; omega
      · go_wp2
        go_quiet (fail)
        go_wp2
        go_ret
        exact ⟨rfl, below_drewN (Below.refl _ _) _⟩
      · simp at h
    · exact matchRow x len0 cap0 z0 w hlc hz hc hwz hl
  · have hm : len0 ≤ maxLen := by
      rcases w0 with ⟨_, rfl, _⟩ | ⟨x, _, h1, h2, _⟩
      · exact Nat.zero_le _
      · omega
    have hm' := hm
    unfold maxLen at hm'
    by_cases hbig : len0 ≤ 1048576
    · go_enter Try.func3, Try.ntmps3
      go_wp2_with (go_at_call 6; refine (zzBytesPick_any _ _ _ _ hm).mono ?_; rintro e W0 ⟨rfl, rfl⟩)
      go_ret
      exact ⟨rfl, Below.refl _ _⟩
    · go_enter Try.func3, Try.ntmps3
      go_wp2_with (go_at_call 6; refine (zzBytesPick_any _ _ _ _ hm).mono ?_; rintro e W0 ⟨rfl, rfl⟩)
      go_ret
      exact ⟨rfl, Below.refl _ _⟩
end Go.Proofs.Qxb6605369a
