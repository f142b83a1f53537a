import Derived.Test.Qxb6605362aGroup
import Derived.OpenShut
namespace Go.Proofs.Qxb6605362a
open Go.RowKit

theorem ret_int {k : IntKind} {a b : Int} (h : a = b) : Ending.returned (.int k a) = .returned (.int k b) := by rw [h]

theorem StrAt.bound {zs : List Int} {m p R : Nat} (h : StrAt zs m p R) (hp : p ≤ zs.length) : p ≤ R ∧ R ≤ zs.length := by
  unfold StrAt at h
  have hle := sE_le (zs.drop p) m
  rw [List.length_drop] at hle
  omega

theorem stopsBare_yes (c : Int) (w : World) (h : (c = 125 ∨ c = 93) ∨ (c = 44 ∨ c = 58 ∨ c = 32 ∨ c = 9 ∨ c = 10 ∨ c = 13)) :
    Calls Try.prog 25 #[.int .u8 c] w fun e w' => e = .returned (.bool true) ∧ w' = w := by
  rcases h with (rfl | rfl) | (rfl | rfl | rfl | rfl | rfl | rfl)
  all_goals
    go_enter Try.func25, Try.ntmps25
    go_wp2_with (go_at_call 13; refine (isSpace_any _ _).mono ?_; rintro e w' ⟨rfl, rfl⟩)
    go_ret
    exact ⟨rfl, rfl⟩

theorem stopsBare_no (c : Int) (w : World) (h : plainB c) :
    Calls Try.prog 25 #[.int .u8 c] w fun e w' => e = .returned (.bool false) ∧ w' = w := by
  obtain ⟨h1, h2, h3, h4, h5, h6, h7, h8, h9, h10, h11⟩ := h
  have b4 : (c == 125) = false := beq_eq_false_iff_ne.2 h4
  have b5 : (c == 93) = false := beq_eq_false_iff_ne.2 h5
  have b6 : (c == 44) = false := beq_eq_false_iff_ne.2 h6
  have b7 : (c == 58) = false := beq_eq_false_iff_ne.2 h7
  have b8 : isSp c = false := isSp_no h8 h9 h10 h11
  clear h1 h2 h3 h4 h5 h6 h7 h8 h9 h10 h11
  go_enter Try.func25, Try.ntmps25
  go_wp2_with (go_at_call 13; refine (isSpace_any _ _).mono ?_; rintro e w' ⟨rfl, rfl⟩)
  go_ret
  exact ⟨rfl, rfl⟩

set_option maxHeartbeats 2000000 in
set_option maxRecDepth 100000 in
theorem scanValue_any (ao : Option Addr) (len cap : Nat) (zs : List Int) (i R : Nat) (w : World) (hr : Rd w ao len zs) (hl : len ≤ 65536) (_hi : i ≤ 9223372036854775807) (hR : At zs 0 i R) :
    Calls Try.prog 17 #[.slice ao len cap, .int .i64 i] w fun e w' => e = .returned (.int .i64 R) ∧ w' = w := by
  have hzl := hr.hlen
  go_enter Try.func17, Try.ntmps17
  go_wp2_with fail
  go_loop [5] (fun q => ∃ k : Nat, q = .int .i64 k ∧ At zs 0 k R) (fun q => len - (intOf q).toNat)
  case atStart => exact ⟨i, rfl, hR⟩
  case round =>
    obtain ⟨k, rfl, HA⟩ := hrel
    clear hR
    by_cases hlt : k < len
    · obtain ⟨b, rfl, hc⟩ := hr.cell k hlt
      have hlt' : (k : Int) < (len : Int) := by omega
      obtain ⟨c, hcc⟩ : ∃ c, c = zs.getD k 0 := ⟨_, rfl⟩
      rw [← hcc] at hc
      have HC : Hid (c = zs.getD k 0) := hcc
      clear hcc
      rcases kinds_of c with h34 | hop | hcl | hst | hpl
      · subst h34
        have hS := HA.str0 (by omega) HC.out.symm
        go_wp2_with (go_at_call 23; refine (quoteEnd_any _ len cap zs k R _ hr hlt (by omega) hS).mono ?_; rintro e w' ⟨rfl, rfl⟩)
        go_ret
        exact ⟨rfl, rfl⟩
      · have hS := HA.op (by omega) (by rw [← HC.out]; exact hop)
        rcases hop with rfl | rfl
        all_goals
          go_wp2_with (go_at_call 24; refine (groupEnd_any len _ len cap zs (k + 1) R _ hr (by omega) (by omega) (by omega) hS).mono ?_; rintro e w' ⟨rfl, rfl⟩)
          go_ret
          exact ⟨rfl, rfl⟩
      · have hS := (HA.cl (by omega) (by rw [← HC.out]; exact hcl)).1 rfl
        have H1 : Hid (c = 125 ∨ c = 93) := hcl
        have b1 : (c == 34) = false := beq_eq_false_iff_ne.2 (by omega)
        have b2 : (c == 123) = false := beq_eq_false_iff_ne.2 (by omega)
        have b3 : (c == 91) = false := beq_eq_false_iff_ne.2 (by omega)
        clear hcl HA
        subst hS
        go_wp2_with (go_at_call 25; refine (stopsBare_yes _ _ (.inl H1.out)).mono ?_; rintro e w' ⟨rfl, rfl⟩)
        go_ret
        exact ⟨rfl, rfl⟩
      · have hS := (HA.stop (by omega) (by rw [← HC.out]; exact hst)).1 rfl
        have H1 : Hid (c = 44 ∨ c = 58 ∨ c = 32 ∨ c = 9 ∨ c = 10 ∨ c = 13) := hst
        have b1 : (c == 34) = false := beq_eq_false_iff_ne.2 (by omega)
        have b2 : (c == 123) = false := beq_eq_false_iff_ne.2 (by omega)
        have b3 : (c == 91) = false := beq_eq_false_iff_ne.2 (by omega)
        clear hst HA
        subst hS
        go_wp2_with (go_at_call 25; refine (stopsBare_yes _ _ (.inr H1.out)).mono ?_; rintro e w' ⟨rfl, rfl⟩)
        go_ret
        exact ⟨rfl, rfl⟩
      · have b1 : (c == 34) = false := beq_eq_false_iff_ne.2 hpl.1
        have b2 : (c == 123) = false := beq_eq_false_iff_ne.2 hpl.2.1
        have b3 : (c == 91) = false := beq_eq_false_iff_ne.2 hpl.2.2.1
        have hS : At zs 0 (k + 1) R := HA.plain (by omega) (by rw [← HC.out]; exact hpl)
        go_wp2_with (go_at_call 25; refine (stopsBare_no _ _ hpl).mono ?_; rintro e w' ⟨rfl, rfl⟩)
        go_round
        case rel => exact ⟨k + 1, by go_num, hS⟩
        case measure => simp [intOf]; omega
    · have hfin : R = k := HA.done (by omega)
      clear HA
      subst hfin
      go_wp2_with fail
      go_ret
      exact ⟨rfl, rfl⟩

set_option maxHeartbeats 4000000 in
set_option maxRecDepth 100000 in
theorem valueEnd_any (ao : Option Addr) (len cap : Nat) (zs : List Int) (i R : Nat) (w : World) (hr : Rd w ao len zs) (hl : len ≤ 65536) (_hi : i ≤ 9223372036854775807) (hR : At zs 0 i R) :
    Calls Try.prog 22 #[.slice ao len cap, .int .i64 i] w fun e w' => e = .returned (.int .i64 R) ∧ w' = w := by
  have hzl := hr.hlen
  go_enter Try.func22, Try.ntmps22
  go_wp2_with fail
  go_loop [1, 5] (fun q t => ∃ k d : Nat, d ≤ k ∧ q = .int .i64 k ∧ t = .int .i64 d ∧ At zs d k R) (fun q _ => len - (intOf q).toNat)
  case atStart => exact ⟨i, 0, Nat.zero_le _, rfl, rfl, hR⟩
  case round =>
    obtain ⟨k, d, hd, rfl, rfl, HA⟩ := hrel
    clear hR
    by_cases hlt : k < len
    · obtain ⟨b, rfl, hc⟩ := hr.cell k hlt
      have hlt' : (k : Int) < (len : Int) := by omega
      obtain ⟨c, hcc⟩ : ∃ c, c = zs.getD k 0 := ⟨_, rfl⟩
      rw [← hcc] at hc
      have HC : Hid (c = zs.getD k 0) := hcc
      clear hcc
      rcases kinds_of c with h34 | hop | hcl | hst | hpl
      · subst h34
        by_cases hd0 : d = 0
        · subst hd0
          have hS := HA.str0 (by omega) HC.out.symm
          obtain ⟨hb1, hb2⟩ := hS.bound (by omega)
          go_wp2_with (go_at_call 27; refine (stringEnd_any _ len cap zs k R _ hr hlt (by omega) hS).mono ?_; rintro e w' ⟨rfl, rfl⟩)
          go_ret
          exact ⟨ret_int (by omega), rfl⟩
        · obtain ⟨d', rfl⟩ : ∃ d', d = d' + 1 := ⟨d - 1, by omega⟩
          obtain ⟨S, hS, hS1, hS2, hA⟩ := HA.str (by omega) HC.out.symm
          have hb0 : (((d' + 1 : Nat) : Int) == 0) = false := beq_eq_false_iff_ne.2 (by omega)
          go_wp2_with (go_at_call 27; refine (stringEnd_any _ len cap zs k S _ hr hlt (by omega) hS).mono ?_; rintro e w' ⟨rfl, rfl⟩)
          go_round
          case rel => exact ⟨S, d' + 1, by omega, by go_num, rfl, hA⟩
          case measure => simp [intOf]; omega
      · have hS := HA.op (by omega) (by rw [← HC.out]; exact hop)
        rcases hop with rfl | rfl
        all_goals
          go_wp2_with fail
          go_round
          case rel => exact ⟨k + 1, d + 1, by omega, by go_num, by go_num, hS⟩
          case measure => simp [intOf]; omega
      · have hS := HA.cl (by omega) (by rw [← HC.out]; exact hcl)
        by_cases hd0 : d = 0
        · have hf := hS.1 hd0
          clear hS HA
          subst hd0
          subst hf
          rcases hcl with rfl | rfl
          all_goals
            go_wp2_with fail
            go_ret
            exact ⟨rfl, rfl⟩
        · have hb0 : ((d : Int) == 0) = false := beq_eq_false_iff_ne.2 (by omega)
          by_cases hd1 : d = 1
          · have hf := hS.2.1 hd1
            clear hS HA
            subst hd1
            subst hf
            rcases hcl with rfl | rfl
            all_goals
              go_wp2_with fail
              go_ret
              exact ⟨rfl, rfl⟩
          · have hA := hS.2.2 (by omega)
            clear hS HA
            have hb1 : ((d : Int) - 1 == 0) = false := beq_eq_false_iff_ne.2 (by omega)
            rcases hcl with rfl | rfl
            all_goals
              go_wp2_with fail
              go_round
              case rel => exact ⟨k + 1, d - 1, by omega, by go_num, by rw [show ((d - 1 : Nat) : Int) = (d : Int) - 1 from by omega], hA⟩
              case measure => simp [intOf]; omega
      · have hS := HA.stop (by omega) (by rw [← HC.out]; exact hst)
        by_cases hd0 : d = 0
        · have hf := hS.1 hd0
          clear hS HA
          subst hd0
          subst hf
          rcases hst with rfl | rfl | rfl | rfl | rfl | rfl
          all_goals
            go_wp2_with fail
            go_ret
            exact ⟨rfl, rfl⟩
        · have hA := hS.2 hd0
          clear hS HA
          have hb0 : ((d : Int) == 0) = false := beq_eq_false_iff_ne.2 (by omega)
          rcases hst with rfl | rfl | rfl | rfl | rfl | rfl
          all_goals
            go_wp2_with fail
            go_round
            case rel => exact ⟨k + 1, d, by omega, by go_num, rfl, hA⟩
            case measure => simp [intOf]; omega
      · have hS : At zs d (k + 1) R := HA.plain (by omega) (by rw [← HC.out]; exact hpl)
        clear HA
        obtain ⟨h1, h2, h3, h4, h5, h6, h7, h8, h9, h10, h11⟩ := hpl
        have b1 : (c == 34) = false := beq_eq_false_iff_ne.2 h1
        have b2 : (c == 123) = false := beq_eq_false_iff_ne.2 h2
        have b3 : (c == 91) = false := beq_eq_false_iff_ne.2 h3
        have b4 : (c == 125) = false := beq_eq_false_iff_ne.2 h4
        have b5 : (c == 93) = false := beq_eq_false_iff_ne.2 h5
        have b6 : (c == 44) = false := beq_eq_false_iff_ne.2 h6
        have b7 : (c == 58) = false := beq_eq_false_iff_ne.2 h7
        have b8 : (c == 32) = false := beq_eq_false_iff_ne.2 h8
        have b9 : (c == 9) = false := beq_eq_false_iff_ne.2 h9
        have b10 : (c == 10) = false := beq_eq_false_iff_ne.2 h10
        have b11 : (c == 13) = false := beq_eq_false_iff_ne.2 h11
        clear h1 h2 h3 h4 h5 h6 h7 h8 h9 h10 h11
        go_wp2_with fail
        go_round
        case rel => exact ⟨k + 1, d, by omega, by go_num, rfl, hS⟩
        case measure => simp [intOf]; omega
    · have hfin : R = k := HA.done (by omega)
      clear HA
      subst hfin
      go_wp2_with fail
      go_ret
      exact ⟨rfl, rfl⟩

theorem zzValueEnd_any (ao : Option Addr) (len cap : Nat) (zs : List Int) (i R : Nat) (w : World) (hr : Rd w ao len zs) (hl : len ≤ 65536) (hi : i ≤ 9223372036854775807) (hR : At zs 0 i R) :
    Calls Try.prog 16 #[.slice ao len cap, .int .i64 i] w fun e w' => e = .returned (.int .i64 R) ∧ w' = w := by
  go_enter Try.func16, Try.ntmps16
  go_wp2_with fail
  refine (valueEnd_any ao len cap zs i R _ hr hl hi hR).mono ?_
  rintro e w' ⟨rfl, rfl⟩
  go_wp2_with fail
  go_ret
  exact ⟨rfl, rfl⟩

theorem zzBytesValue_any (ao : Option Addr) (len cap : Nat) (i : Int) (w : World) (hl : len ≤ maxLen) :
    Calls Try.prog 15 #[.slice ao len cap, .int .i64 i] w fun e w' => e = .returned (.bool (decide (len ≤ 1048576))) ∧ w' = w := by
  unfold maxLen at hl
  by_cases h : len ≤ 1048576
  · rw [decide_eq_true h]
    go_enter Try.func15, Try.ntmps15
    go_wp2
    go_ret
    exact ⟨rfl, rfl⟩
  · rw [decide_eq_false h]
    go_enter Try.func15, Try.ntmps15
    go_wp2
    go_ret
    exact ⟨rfl, rfl⟩

set_option maxHeartbeats 1000000 in
set_option maxRecDepth 100000 in
theorem valueMain (a0 : Option Addr) (len0 cap0 : Nat) (z0 : List Int) (a1 : Int) (w : World) (w0 : IsRow .u8 w a0 len0 cap0 z0) (w1 : (Lit.int .i64 a1).wf = true) :
    Calls Try.prog 6 #[.slice a0 len0 cap0, .int .i64 a1] w fun e w' => e = .returned (.bool true) ∧ Below w.heap.size w w' := by
  have hm : len0 ≤ maxLen := by
    rcases w0 with ⟨_, rfl, _⟩ | ⟨x, _, h1, h2, _⟩
    · exact Nat.zero_le _
    · omega
  have hm' := hm
  unfold maxLen at hm'
  have hnq := fun (w : World) => run_neq_slice_nil_any (P := Try.prog) w 29 5 a0 len0 cap0 0 0 Try.underlying29
  have hb64 := bounds_i64 w1
  by_cases hbig : len0 ≤ 1048576
  · by_cases hmid : len0 ≤ 65536
    · by_cases hi0 : 0 ≤ a1
      · obtain ⟨i, rfl⟩ := Int.eq_ofNat_of_zero_le hi0
        have hi63 : i ≤ 9223372036854775807 := by omega
        clear hb64
        rcases w0 with ⟨rfl, rfl, rfl, rfl⟩ | ⟨x, rfl, hlc, hcm, hz, hc, hwz⟩
        · have hr := rd_nil w
          have hb := Below.refl w.heap.size w
          obtain ⟨R, hR⟩ : ∃ R, At [] 0 i R := ⟨_, rfl⟩
          go_enter Try.func6, Try.ntmps6
          go_wp2_with (first | (go_at_call 15; refine (zzBytesValue_any _ _ _ _ _ hm).mono ?_; rintro e w' ⟨rfl, rfl⟩) | fail)
          refine (zzValueEnd_any _ _ _ _ _ R _ hr (by omega) hi63 hR).mono ?_
          rintro e w2 ⟨rfl, rfl⟩
          go_wp2_with fail
          refine (scanValue_any _ _ _ _ _ R _ hr (by omega) hi63 hR).mono ?_
          rintro e w2 ⟨rfl, rfl⟩
          go_wp2_with fail
          go_ret
          exact ⟨rfl, hb⟩
        · have hmk := fun w => make_u8 len0 hbig w
          have hcp := fun ty => copy_u8 w ty x len0 cap0 z0 hlc hz hc
          have hr := rd_copy w len0 cap0 z0 hlc hz
          have hb : Below w.heap.size w (w.alloc (.cells (u8Cells (z0.take len0)) 5)) := (Below.refl _ _).alloc (Nat.le_refl _) _
          generalize z0.take len0 = zs at *
          obtain ⟨R, hR⟩ : ∃ R, At zs 0 i R := ⟨_, rfl⟩
          go_enter Try.func6, Try.ntmps6
          go_wp2_with (first | (go_at_call 15; refine (zzBytesValue_any _ _ _ _ _ hm).mono ?_; rintro e w' ⟨rfl, rfl⟩) | fail)
          refine (zzValueEnd_any _ _ _ _ _ R _ hr (by omega) hi63 hR).mono ?_
          rintro e w2 ⟨rfl, rfl⟩
          go_wp2_with fail
          refine (scanValue_any _ _ _ _ _ R _ hr (by omega) hi63 hR).mono ?_
          rintro e w2 ⟨rfl, rfl⟩
          go_wp2_with fail
          go_ret
          exact ⟨rfl, hb⟩
      · go_enter Try.func6, Try.ntmps6
        go_wp2_with (go_at_call 15; refine (zzBytesValue_any _ _ _ _ _ hm).mono ?_; rintro e w' ⟨rfl, rfl⟩)
        go_ret
        exact ⟨rfl, Below.refl _ _⟩
    · go_enter Try.func6, Try.ntmps6
      go_wp2_with (go_at_call 15; refine (zzBytesValue_any _ _ _ _ _ hm).mono ?_; rintro e w' ⟨rfl, rfl⟩)
      go_ret
      exact ⟨rfl, Below.refl _ _⟩
  · go_enter Try.func6, Try.ntmps6
    go_wp2_with (go_at_call 15; refine (zzBytesValue_any _ _ _ _ _ hm).mono ?_; rintro e w' ⟨rfl, rfl⟩)
    go_ret
    exact ⟨rfl, Below.refl _ _⟩
end Go.Proofs.Qxb6605362a
