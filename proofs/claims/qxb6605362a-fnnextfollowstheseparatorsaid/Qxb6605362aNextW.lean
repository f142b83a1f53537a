import Derived.Test.Qxb6605362aCopy
namespace Go.Proofs.Qxb6605362a
open Go.RowKit

set_option maxHeartbeats 1000000 in
set_option maxRecDepth 100000 in
theorem nextMain (a0 : Option Addr) (len0 cap0 : Nat) (z0 : List Int) (a1 : Int) (a2 : Int) (w : World) (w0 : IsRow .u8 w a0 len0 cap0 z0) (w1 : (Lit.int .i64 a1).wf = true) (_w2 : (Lit.int .u8 a2).wf = true) :
    Calls Try.prog 5 #[.slice a0 len0 cap0, .int .i64 a1, .int .u8 a2] w fun e w' => e = .returned (.bool true) ∧ Below w.heap.size w w' := by
  have hm : len0 ≤ maxLen := by
    rcases w0 with ⟨_, rfl, _⟩ | ⟨x, _, h1, h2, _⟩
    · exact Nat.zero_le _
    · omega
  have hm' := hm
  unfold maxLen at hm'
  have hnq := fun (w : World) => run_neq_slice_nil_any (P := Try.prog) w 29 5 a0 len0 cap0 0 0 Try.underlying29
  by_cases hbig : len0 ≤ 1048576
  · by_cases hrg : 0 ≤ a1 ∧ a1 ≤ len0
    · obtain ⟨hi0, hi1⟩ := hrg
      obtain ⟨i, rfl⟩ := Int.eq_ofNat_of_zero_le hi0
      have hil : i ≤ len0 := by omega
      rcases w0 with ⟨rfl, rfl, rfl, rfl⟩ | ⟨x, rfl, hlc, hcm, hz, hc, hwz⟩
      · have hr := rd_nil w
        have hb := Below.refl w.heap.size w
        go_enter Try.func5, Try.ntmps5
        go_wp2_with (first | (go_at_call 11; refine (zzBytesNext_any _ _ _ _ _ _ hm).mono ?_; rintro e w' ⟨rfl, rfl⟩) | fail)
        refine (zzNext_any _ _ _ _ _ _ _ hr (by omega) (by omega)).mono ?_
        rintro e w2 ⟨⟨k, closed, rfl, j, hj, hcs⟩, rfl⟩
        rcases hcs with ⟨hjl, rfl, rfl⟩ | ⟨hjl, _⟩ | ⟨hjl, _⟩ | ⟨hjl, _⟩
        · clear hjl hj
          go_wp2
          go_loop [10] (fun p => ∃ q : Nat, p = .int .i64 q) (fun p => (intOf p).toNat)
          case atStart => exact ⟨i, rfl⟩
          case round =>
            obtain ⟨q, rfl⟩ := hrel
            go_wp2
            go_ret
            exact ⟨rfl, hb⟩
        all_goals exact absurd hjl (by simp)
      · have hmk := fun w => make_u8 len0 hbig w
        have hcp := fun ty => copy_u8 w ty x len0 cap0 z0 hlc hz hc
        have hr := rd_copy w len0 cap0 z0 hlc hz
        have hb : Below w.heap.size w (w.alloc (.cells (u8Cells (z0.take len0)) 5)) := (Below.refl _ _).alloc (Nat.le_refl _) _
        generalize z0.take len0 = zs at *
        go_enter Try.func5, Try.ntmps5
        go_wp2_with (first | (go_at_call 11; refine (zzBytesNext_any _ _ _ _ _ _ hm).mono ?_; rintro e w' ⟨rfl, rfl⟩) | fail)
        refine (zzNext_any _ _ _ _ _ _ _ hr (by omega) (by omega)).mono ?_
        rintro e w2 ⟨⟨k, closed, rfl, j, hj, hcs⟩, rfl⟩
        clear hmk hcp hc hwz
        have hj1 := hj.lo
        have hj2 := hj.hi
        have hzl := hr.hlen
        rcases hcs with ⟨hjl, rfl, rfl⟩ | ⟨hjl, hcc, rfl, rfl⟩ | ⟨hjl, hne, h44, rfl, m, rfl, hm⟩ | ⟨hjl, hne, h44, rfl, rfl⟩
        · have HJ : Hid (j = zs.length) := hjl
          clear hjl
          go_wp2
          go_loop [10] (fun p => ∃ q : Nat, i ≤ q ∧ q ≤ len0 ∧ p = .int .i64 q) (fun p => len0 - (intOf p).toNat)
          case atStart => exact ⟨i, Nat.le_refl _, by omega, rfl⟩
          case round =>
            obtain ⟨q, hq1, hq2, rfl⟩ := hrel
            by_cases hlt : q < len0
            · obtain ⟨b, hbb, hc⟩ := hr.cell q hlt
              cases hbb
              have hs := hj.sp q hq1 (by have := HJ.out; omega)
              generalize zs.getD q 0 = c at *
              have hlt' : (q : Int) < (len0 : Int) := by omega
              go_wp2_with (go_at_call 13; refine (isSpace_any _ _).mono ?_; rintro e w' ⟨rfl, rfl⟩)
              go_round
              case rel => exact ⟨q + 1, by omega, by omega, by go_num⟩
              case measure => simp [intOf]; omega
            · go_wp2
              go_ret
              exact ⟨rfl, hb⟩
        · obtain ⟨b, hbb, hc⟩ := hr.cell j (by omega)
          cases hbb
          have hst := hj.stop hjl
          rw [hcc] at hc hst
          have HC : Hid (zs.getD j 0 = a2) := hcc
          clear hcc
          have hlt' : (j : Int) < (len0 : Int) := by omega
          go_wp2_with fail
          refine (isSpace_any _ _).mono ?_
          rintro e w2 ⟨rfl, rfl⟩
          rw [hst]
          go_wp2_with fail
          refine (allSpace_yes _ _ _ zs i j _ hr hj1 (by omega) hbig hj.sp).mono ?_
          rintro e w2 ⟨rfl, rfl⟩
          go_wp2
          go_ret
          exact ⟨rfl, hb⟩
        · have hm1 := hm.lo
          have hm2 := hm.hi
          have HM : Hid (∀ p, j + 1 ≤ p → p < m → isSp (zs.getD p 0) = true) := hm.sp
          have hms := hm.stop
          have HN : Hid (¬ zs.getD j 0 = a2) := hne
          have H4 : Hid (zs.getD j 0 = 44) := h44
          have ha2 : (a2 == 44) = false := beq_eq_false_iff_ne.2 (fun e => hne (by rw [h44, e]))
          have hmn : ((m : Int) == -1) = false := beq_eq_false_iff_ne.2 (by omega)
          clear hne h44 hm
          by_cases hme : m < len0
          · obtain ⟨b, hbb, hc⟩ := hr.cell m hme
            cases hbb
            have hms' := hms (by omega)
            have hlt' : (m : Int) < (len0 : Int) := by omega
            clear hms
            generalize zs.getD m 0 = c at *
            go_wp2_with (go_at_call 13; refine (isSpace_any _ _).mono ?_; rintro e w' ⟨rfl, rfl⟩)
            go_loop [11] (fun c => ∃ q : Nat, j ≤ q ∧ q < m ∧ c = .int .i64 q) (fun c => (intOf c).toNat)
            case atStart => exact ⟨m - 1, by omega, by omega, by rw [show ((m - 1 : Nat) : Int) = (m : Int) - 1 from by omega]⟩
            case round =>
              obtain ⟨q, hq1, hq2, rfl⟩ := hrel
              obtain ⟨b, hbb, hcq⟩ := hr.cell q (by omega)
              cases hbb
              have hltq : (q : Int) < (len0 : Int) := by omega
              by_cases hqj : q = j
              · subst hqj
                rw [H4.out] at hcq
                have h44 : isSp 44 = false := rfl
                go_wp2_with (first | (go_at_call 13; refine (isSpace_any _ _).mono ?_; rintro e w' ⟨rfl, rfl⟩) | fail)
                refine (allSpace_yes _ _ _ zs i q _ hr hj1 (by omega) hbig hj.sp).mono ?_
                rintro e w2 ⟨rfl, rfl⟩
                go_wp2
                go_ret
                exact ⟨rfl, hb⟩
              · have hsq := HM.out q (by omega) hq2
                generalize zs.getD q 0 = cq at *
                go_wp2_with (first | (go_at_call 13; refine (isSpace_any _ _).mono ?_; rintro e w' ⟨rfl, rfl⟩) | fail)
                go_round
                case rel => exact ⟨q - 1, by omega, by omega, by rw [show ((q - 1 : Nat) : Int) = (q : Int) - 1 from by omega]⟩
                case measure => simp [intOf]; omega
          · clear hms
            have hml : len0 = m := by omega
            clear hme
            subst hml
            have hdm : decide (len0 ≤ i) = false := decide_eq_false (by omega)
            go_wp2_with (go_at_call 13; refine (isSpace_any _ _).mono ?_; rintro e w' ⟨rfl, rfl⟩)
            go_loop [11] (fun c => ∃ q : Nat, j ≤ q ∧ q < len0 ∧ c = .int .i64 q) (fun c => (intOf c).toNat)
            case atStart => exact ⟨len0 - 1, by omega, by omega, by rw [show ((len0 - 1 : Nat) : Int) = (len0 : Int) - 1 from by omega]⟩
            case round =>
              obtain ⟨q, hq1, hq2, rfl⟩ := hrel
              obtain ⟨b, hbb, hcq⟩ := hr.cell q (by omega)
              cases hbb
              have hltq : (q : Int) < (len0 : Int) := by omega
              by_cases hqj : q = j
              · subst hqj
                rw [H4.out] at hcq
                have h44 : isSp 44 = false := rfl
                go_wp2_with (first | (go_at_call 13; refine (isSpace_any _ _).mono ?_; rintro e w' ⟨rfl, rfl⟩) | fail)
                refine (allSpace_yes _ _ _ zs i q _ hr hj1 (by omega) hbig hj.sp).mono ?_
                rintro e w2 ⟨rfl, rfl⟩
                go_wp2
                go_ret
                exact ⟨rfl, hb⟩
              · have hsq := HM.out q (by omega) hq2
                generalize zs.getD q 0 = cq at *
                go_wp2_with (first | (go_at_call 13; refine (isSpace_any _ _).mono ?_; rintro e w' ⟨rfl, rfl⟩) | fail)
                go_round
                case rel => exact ⟨q - 1, by omega, by omega, by rw [show ((q - 1 : Nat) : Int) = (q : Int) - 1 from by omega]⟩
                case measure => simp [intOf]; omega
        · have hne' : Hid (¬ zs.getD j 0 = a2) := hne
          have h44' : Hid (¬ zs.getD j 0 = 44) := h44
          clear hne h44
          go_wp2
          go_loop [10] (fun p => ∃ q : Nat, i ≤ q ∧ q ≤ j ∧ p = .int .i64 q) (fun p => j - (intOf p).toNat)
          case atStart => exact ⟨i, Nat.le_refl _, by omega, rfl⟩
          case round =>
            obtain ⟨q, hq1, hq2, rfl⟩ := hrel
            obtain ⟨b, hbb, hc⟩ := hr.cell q (by omega)
            cases hbb
            have hlt' : (q : Int) < (len0 : Int) := by omega
            by_cases hqj : q = j
            · subst hqj
              have hs := hj.stop hjl
              have e1 : (zs.getD q 0 != a2) = true := by rw [bne_iff_ne]; exact hne'.out
              have e2 : (zs.getD q 0 != 44) = true := by rw [bne_iff_ne]; exact h44'.out
              clear hne' h44' hj
              generalize zs.getD q 0 = c at *
              go_wp2_with (go_at_call 13; refine (isSpace_any _ _).mono ?_; rintro e w' ⟨rfl, rfl⟩)
              go_ret
              exact ⟨rfl, hb⟩
            · have hs := hj.sp q hq1 (by omega)
              generalize zs.getD q 0 = c at *
              go_wp2_with (go_at_call 13; refine (isSpace_any _ _).mono ?_; rintro e w' ⟨rfl, rfl⟩)
              go_round
              case rel => exact ⟨q + 1, by omega, by omega, by go_num⟩
              case measure => simp [intOf]; omega
    · go_enter Try.func5, Try.ntmps5
      go_wp2_with (go_at_call 11; refine (zzBytesNext_any _ _ _ _ _ _ hm).mono ?_; rintro e w' ⟨rfl, rfl⟩)
      all_goals
        go_ret
        exact ⟨rfl, Below.refl _ _⟩
  · go_enter Try.func5, Try.ntmps5
    go_wp2_with (go_at_call 11; refine (zzBytesNext_any _ _ _ _ _ _ hm).mono ?_; rintro e w' ⟨rfl, rfl⟩)
    go_ret
    exact ⟨rfl, Below.refl _ _⟩
end Go.Proofs.Qxb6605362a
