import Derived.Test.Qxb6605369aDigits
namespace Go.Proofs.Qxb6605369a
open Go.RowKit

theorem scale_cons (c : Int) (L : List Nat) : scale c (1 :: L) = c :: scale c L := by simp [scale]

set_option maxHeartbeats 4000000 in
set_option maxRecDepth 100000 in
theorem keepMain (a0 : Int) (a1 : Int) (w0 : (Lit.int .i64 a0).wf = true) (w1 : (Lit.int .i64 a1).wf = true) (w : World) :
    Calls Try.prog 4 #[.int .i64 a0, .int .i64 a1] w fun e w' => e = .returned (.bool true) ∧ Below w.heap.size w w' := by
  have hb0 := bounds_i64 w0
  have hb1 := bounds_i64 w1
  clear w0 w1
  by_cases hn : 0 ≤ a0 ∧ a0 ≤ 510
  · by_cases hc : 1 ≤ a1 ∧ a1 ≤ 9007199254740992
    · obtain ⟨hc0, hc1⟩ := hc
      obtain ⟨hn0, hn1⟩ := hn
      obtain ⟨n, rfl⟩ := Int.eq_ofNat_of_zero_le hn0
      clear hb0 hb1
      obtain ⟨i0, hi, hz0, hz1, hz2⟩ := info_parts Try.info2
      go_enter Try.func4, Try.ntmps4
      go_wp2_with fail
      go_loopw [5, 6] (fun t kk wr => ∃ (k : Nat) (ao : Option Addr) (cap : Nat), k ≤ n ∧ kk = .int .i64 ((k : Int) + 1) ∧ t = .slice ao (dg k).length cap ∧ Rd wr ao (dg k).length (scale a1 (dg k)) ∧ Below w.heap.size w wr) (fun _ kk _ => n + 1 - (intOf kk).toNat)
      case atStart => exact ⟨0, none, 0, Nat.zero_le _, rfl, rfl, rd_nil w, Below.refl _ _⟩
      case round =>
        obtain ⟨k, ao, cap, hkn, rfl, rfl, hr, hbel⟩ := hrel
        obtain ⟨W, hW⟩ : ∃ W, W = wr := ⟨_, rfl⟩
        subst hW
        by_cases hk : k < n
        · have hk5 : k < 510 := by omega
          obtain ⟨hl1, hl2⟩ := more_length k hk5
          have hkI : (k : Int) + 1 ≤ (n : Int) := by omega
          generalize hln : (dg k).length = len at *
          have HLN : Hid ((dg k).length = len) := hln
          clear hln
          have hzl := hr.hlen
          generalize hzs : scale a1 (dg k) = zs at *
          have HZS : Hid (scale a1 (dg k) = zs) := hzs
          clear hzs
          go_wp2_with (first | (at_make; refine wpList_make_own _ rfl _ _ 22 rfl W.heap.size 2 i0 (.int .i64 0) 1 Try.underlying22 hi hz0 hz1 .i64 .i64 _ (len + 1) rfl rfl (by omega) (by rw [hz2]; omega) (by unfold maxLen; omega) (Nat.le_refl _) ?_; intro v1 hown hgrow) | (at_builtin; refine wpList_append_fits _ rfl _ _ 22 rfl W.heap.size 2 i0 1 Try.underlying22 hi hz1 W.heap.size 0 (len + 1) [] rfl (hown.alloc _) ⟨v1.heap.size, 0, none⟩ 1 1 [.int .i64 a1] rfl rfl (cell_one_new _ _ _) (one_cell _) (by omega) ?_; intro v2 hown2 hgrow2) | fail)
          have hbv1 : Below W.heap.size W v1 := (Below.refl _ _).grown hgrow (Nat.le_refl _) (by simp)
          have hbv2 : Below W.heap.size W v2 := (hbv1.alloc hbv1.size _).grown hgrow2 (by have := hbv1.size; simp; omega) (by intro k hk; simp at hk; omega)
          have hown3 : v2.ownsRow W.heap.size 2 1 (.slice (some ⟨W.heap.size, 0, none⟩) (0 + 1) (len + 1)) (0 + 1) (vals (a1 :: zs.take 0)) := by simpa [vals] using hown2
          clear hown hgrow hgrow2 hown2 hbv1
          go_loopw [7, 8] (fun out i wq => ∃ q : Nat, q ≤ len ∧ i = .int .i64 q ∧ out = .slice (some ⟨W.heap.size, 0, none⟩) (q + 1) (len + 1) ∧ wq.ownsRow W.heap.size 2 1 (.slice (some ⟨W.heap.size, 0, none⟩) (q + 1) (len + 1)) (q + 1) (vals (a1 :: zs.take q)) ∧ Below W.heap.size W wq) (fun _ i _ => len - (intOf i).toNat)
          case atStart => exact ⟨0, by omega, rfl, rfl, hown3, hbv2⟩
          case round =>
            obtain ⟨q, hq, rfl, rfl, hown, hb⟩ := hrel
            clear hown3 hbv2
            by_cases hql : q < len
            · have hrr := hr.below hb
              obtain ⟨b, hbb, hcq⟩ := hrr.cell q hql
              subst hbb
              have hlt' : (q : Int) < (len : Int) := by omega
              have htk := drop_take_succ zs 0 q (by omega)
              simp only [List.drop_zero, Nat.zero_add] at htk
              obtain ⟨z, hz⟩ : ∃ z, z = zs.getD q 0 := ⟨_, rfl⟩
              rw [← hz] at hcq htk
              have HT : Hid (zs.take (q + 1) = zs.take q ++ [z]) := htk
              clear hz htk hrr
              go_wp2_with (first | (at_builtin; refine wpList_append_fits _ rfl _ _ 22 rfl W.heap.size 2 i0 1 Try.underlying22 hi hz1 W.heap.size (q + 1) (len + 1) (vals (a1 :: zs.take q)) rfl (hown.alloc _) ⟨wr.heap.size, 0, none⟩ 1 1 [.int .i64 z] rfl rfl (cell_one_new _ _ _) (one_cell _) (by omega) ?_; intro w3 hown3 hgrow3) | fail)
              have hb3 : Below W.heap.size W w3 := (hb.alloc hb.size _).grown hgrow3 (by have := hb.size; simp; omega) (by intro k hk; simp at hk; omega)
              go_roundw
              case rel =>
                refine ⟨q + 1, by omega, by go_num, rfl, ?_, hb3⟩
                rw [HT.out]
                simpa [vals] using hown3
              case measure => simp [intOf]; omega
            · have hqe : q = len := by omega
              subst hqe
              have htk : zs.take q = zs := List.take_of_length_le (by omega)
              rw [htk] at hown
              have hrd := rd_owns hown
              rw [← HZS.out, ← scale_cons] at hrd
              have hbw : Below w.heap.size w wr := hbel.trans (hb.mono hbel.size)
              have hlen1 : (1 :: dg k).length = q + 1 := by simp [HLN.out]
              rw [← hlen1] at hrd
              clear hown htk hb hr hbel hzl
              go_wp2_with fail
              go_loopw [5, 10] (fun t s wq => ∃ (st : Nat) (ao' : Option Addr) (ln cap' : Nat) (zs' : List Int), st ≤ q + 1 ∧ s = .int .i64 st ∧ t = .slice ao' ln cap' ∧ Rd wq ao' ln zs' ∧ ln ≤ 20 ∧ Below w.heap.size w wq ∧ Hid (zs' = scale a1 (dg (k + 1)) ∨ (zs' = scale a1 (1 :: dg k) ∧ st = 0))) (fun _ s _ => q + 1 - (intOf s).toNat)
              case atStart => exact ⟨0, _, q + 1, _, _, by omega, rfl, rfl, by rw [hlen1] at hrd; exact hrd, by omega, hbw, .inr ⟨rfl, rfl⟩⟩
              case round =>
                obtain ⟨st, ao', ln, cap', zs', hst, rfl, rfl, hrx, hln, hbx, hdis⟩ := hrel
                clear hrd hbw
                by_cases hdone : zs' = scale a1 (dg (k + 1))
                · clear hdis
                  subst hdone
                  have hlx : (dg (k + 1)).length = ln := by rw [← scale_length a1]; exact hrx.hlen
                  have HLX : Hid ((dg (k + 1)).length = ln) := hlx
                  clear hlx
                  by_cases hsl : st < q + 1
                  · have hslI : (st : Int) < (q : Int) + 1 := by omega
                    go_wp2_with fail
                    refine (zzPick_any _ _ _ _ _ hrx (by omega)).mono ?_
                    rintro e2 w4 ⟨⟨f, en, fd, rfl, hpr⟩, nq1, rfl⟩
                    have hfd := pick_still a1 k hk5 hc0 hc1 hpr
                    subst hfd
                    clear hpr
                    go_wp2_with fail
                    refine (digits_any _ _ _ (k + 1) a1 _ (hrx.drewN _) (by omega) hc0 hc1 (by omega)).mono ?_
                    rintro e2 w5 ⟨rfl, nq2, rfl⟩
                    go_wp2_with fail
                    go_roundw
                    case rel => exact ⟨k + 1, ao', cap', by omega, by go_num, by rw [HLX.out], by rw [HLX.out]; exact hrx.drewN _, below_drewN hbx _⟩
                    case measure => simp [intOf]; omega
                  · have hslI : ¬ (st : Int) < (q : Int) + 1 := by omega
                    go_wp2_with fail
                    refine (digits_any _ _ _ (k + 1) a1 _ hrx (by omega) hc0 hc1 (by omega)).mono ?_
                    rintro e2 w5 ⟨rfl, nq2, rfl⟩
                    go_wp2_with fail
                    go_roundw
                    case rel => exact ⟨k + 1, ao', cap', by omega, by go_num, by rw [HLX.out], by rw [HLX.out]; exact hrx.drewN _, below_drewN hbx _⟩
                    case measure => simp [intOf]; omega
                · obtain ⟨hz1', hst0⟩ : zs' = scale a1 (1 :: dg k) ∧ st = 0 := by
                    rcases hdis.out with h | h
                    · exact absurd h hdone
                    · exact h
                  clear hdis
                  subst hz1'
                  subst hst0
                  rcases pick_more a1 k hk5 hc0 hc1 with h | ⟨e, he2, hel, hmg, hpk⟩
                  · exact absurd h hdone
                  · clear hdone
                    have hlx := hrx.hlen
                    rw [hlx] at hel
                    have HMG : Hid (psum (scale a1 (1 :: dg k)) e :: (scale a1 (1 :: dg k)).drop e = scale a1 (dg (k + 1))) := hmg
                    have HPK : Hid (∀ (f en : Int) (fd : Bool), PickR (scale a1 (1 :: dg k)) f en fd → f = 0 ∧ en = e ∧ fd = true) := hpk
                    clear hmg hpk
                    generalize scale a1 (1 :: dg k) = zz at *
                    go_wp2_with fail
                    refine (zzPick_any _ _ _ _ _ hrx (by omega)).mono ?_
                    rintro e2 w4 ⟨⟨f, en, fd, rfl, hpr⟩, nq1, rfl⟩
                    obtain ⟨rfl, rfl, rfl⟩ := HPK.out _ _ _ hpr
                    clear hpr HPK
                    have hrx2 := hrx.drewN nq1
                    have hbx2 := below_drewN hbx nq1
                    go_wp2_with fail
                    refine (merge_any _ _ _ zz e _ hrx2 (by omega) (by omega)).mono ?_
                    rintro e2 w5 ⟨b, cp, rfl, hr5, hb5⟩
                    rw [hlx] at hr5
                    go_wp2_with fail
                    go_roundw
                    case rel => exact ⟨1, some ⟨b, 0, none⟩, _, cp, _, by omega, rfl, rfl, hr5, by omega, hbx2.trans (hb5.mono hbx2.size), .inl HMG.out⟩
                    case measure => simp [intOf]
        · go_wp2_with fail
          go_ret
          exact ⟨rfl, hbel⟩
    · go_enter Try.func4, Try.ntmps4
      go_wp2_with fail
      all_goals
        go_ret
        exact ⟨rfl, Below.refl _ _⟩
  · go_enter Try.func4, Try.ntmps4
    go_wp2_with fail
    all_goals
      go_ret
      exact ⟨rfl, Below.refl _ _⟩
end Go.Proofs.Qxb6605369a
