import Derived.Test.Qxb6605475aFirstW
namespace Go.Proofs.Qxb6605475a
open Go.RowKit

set_option maxHeartbeats 1000000 in
set_option maxRecDepth 100000 in
theorem zzBytes2_any (ao : Option Addr) (len cap : Nat) (C : Nat → Int) (V : Nat → Value) (front other : Int) (A : Option Addr) (dn dcap : Nat) (w : World) (h : OptsAt 0 w ao len C V) (hl : len ≤ maxLen) (hdn : dn ≤ maxLen) :
    Calls Try.prog 14 #[.slice ao len cap, .int .u16 front, .slice A dn dcap, .int .u16 other] w fun e w' => BytesE len V e ∧ w' = w := by
  unfold maxLen at hl hdn
  by_cases hbig : len ≤ 1048576
  · go_enter Try.func14, Try.ntmps14
    go_wp2
    go_loop [9, 10] (fun t i => ∃ k T : Nat, k ≤ len ∧ T ≤ 1048576 ∧ i = .int .i64 k ∧ t = .int .i64 T ∧ Hid (∀ j, j < k → lenOf (V j) ≤ 1048576)) (fun _ i => len - (intOf i).toNat)
    case atStart => exact ⟨0, len, Nat.zero_le _, by omega, rfl, rfl, fun j hj => absurd hj (by omega)⟩
    case round =>
      obtain ⟨k, T, hk, hT, rfl, rfl, hall⟩ := hrel
      by_cases hlt : k < len
      · obtain ⟨b, off, rfl, hc, hv⟩ := h.cell k hlt
        obtain ⟨A', n, cp, hV, hnm, _, _⟩ := h.data k hlt
        unfold maxLen at hnm
        have HV : Hid (V k = .slice A' n cp) := hV
        rw [hV] at hv
        clear hV
        have hlt' : (k : Int) < (len : Int) := by omega
        by_cases hn : n ≤ 1048576
        · by_cases hov : T + n ≤ 1048576
          · go_wp2
            go_round
            case rel => exact ⟨k + 1, T + n, by omega, hov, by go_num, by go_num, fun j hj => by
              by_cases e : j = k
              · rw [e, HV.out]; exact hn
              · exact hall.out j (by omega)⟩
            case measure => simp [intOf]; omega
          · go_wp2
            go_ret
            exact ⟨.inl rfl, rfl⟩
        · go_wp2
          go_ret
          exact ⟨.inl rfl, rfl⟩
      · by_cases hd1 : dn ≤ 1048576
        · by_cases hd2 : T + dn ≤ 1048576
          · go_wp2
            go_ret
            exact ⟨.inr ⟨rfl, hbig, fun i hi => hall.out i (by omega)⟩, rfl⟩
          · go_wp2
            go_ret
            exact ⟨.inl rfl, rfl⟩
        · go_wp2
          go_ret
          exact ⟨.inl rfl, rfl⟩
  · go_enter Try.func14, Try.ntmps14
    go_wp2
    go_ret
    exact ⟨.inl rfl, rfl⟩

theorem GetE.unique {len : Nat} {C : Nat → Int} {V : Nat → Value} {code : Int} {e e' : Ending} (h : GetE len C V code e) (h' : GetE len C V code e') : e' = e := by
  obtain ⟨k, hk, hno, hr⟩ := h
  obtain ⟨k', hk', hno', hr'⟩ := h'
  have hkk : k' = k := by
    by_cases a : k < k'
    · rcases hr with ⟨h1, h2, _⟩ | ⟨h1, _⟩
      · exact absurd h2 (hno' k a)
      · omega
    · by_cases b : k' < k
      · rcases hr' with ⟨h1, h2, _⟩ | ⟨h1, _⟩
        · exact absurd h2 (hno k' b)
        · omega
      · omega
  subst hkk
  rcases hr with ⟨h1, _, rfl⟩ | ⟨h1, rfl⟩
  · rcases hr' with ⟨_, _, rfl⟩ | ⟨h2, _⟩
    · rfl
    · omega
  · rcases hr' with ⟨h2, _⟩ | ⟨_, rfl⟩
    · omega
    · rfl

/-- The codes and the data of a list with one option put in front. -/
def C1 (front : Int) (C : Nat → Int) : Nat → Int | 0 => front | i + 1 => C i
def V1 (v : Value) (V : Nat → Value) : Nat → Value | 0 => v | i + 1 => V i

theorem GetE.rest {len : Nat} {C : Nat → Int} {V : Nat → Value} {front code : Int} {v : Value} {e : Ending} (h : GetE (1 + len) (C1 front C) (V1 v V) code e) (hne : ¬ front = code) : GetE len C V code e := by
  obtain ⟨k, hk, hno, hr⟩ := h
  cases k with
  | zero =>
    rcases hr with ⟨_, h2, _⟩ | ⟨h1, _⟩
    · exact absurd h2 hne
    · omega
  | succ k =>
    refine ⟨k, by omega, fun j hj => hno (j + 1) (by omega), ?_⟩
    rcases hr with ⟨h1, h2, h3⟩ | ⟨h1, h3⟩
    · exact .inl ⟨by omega, h2, h3⟩
    · exact .inr ⟨by omega, h3⟩

theorem GetE.front {len : Nat} {C : Nat → Int} {V : Nat → Value} {front : Int} {v : Value} {e : Ending} (h : GetE (1 + len) (C1 front C) (V1 v V) front e) : e = .returned (.tuple #[v, .bool true]) := by
  obtain ⟨k, hk, hno, hr⟩ := h
  cases k with
  | zero =>
    rcases hr with ⟨_, _, h3⟩ | ⟨h1, _⟩
    · exact h3
    · omega
  | succ k => exact absurd rfl (hno 0 (by omega))

/-- The list with the front option stored. -/
theorem Tid.opts1 {w wr : World} {len : Nat} {C : Nat → Int} {V : Nat → Value} {ao : Option Addr} {front : Int} {A : Option Addr} {n cp : Nat} (hM : Tid w wr 1 len len C V) (h : OptsAt 0 w ao len C V)
    (hA : BsAt 0 w A n) (hn : n ≤ maxLen) :
    OptsAt 0 ((wr.setCell ⟨w.heap.size, 0, none⟩ (.int .u16 front)).setCell ⟨w.heap.size, 1, none⟩ (.slice A n cp)) (some ⟨w.heap.size, 0, none⟩) (1 + len) (C1 front C) (V1 (.slice A n cp) V) := by
  obtain ⟨x0, d0, _⟩ := hM.cell 0 (by omega)
  obtain ⟨x1, d1, _⟩ := hM.cell 1 (by omega)
  have hb : Below w.heap.size w ((wr.setCell ⟨w.heap.size, 0, none⟩ (.int .u16 front)).setCell ⟨w.heap.size, 1, none⟩ (.slice A n cp)) := (hM.below.setCell (Nat.le_refl _) _).setCell (Nat.le_refl _) _
  have h' := h.below hb
  refine ⟨fun i hi => ⟨w.heap.size, 0, rfl, ?_, ?_⟩, fun i hi => ?_⟩
  · cases i with
    | zero =>
      rw [cs_off _ _ _ _ _ (by omega), cs_same _ _ _ _ d0]
      rfl
    | succ i =>
      rw [cs_off _ _ _ _ _ (by omega), cs_off _ _ _ _ _ (by omega)]
      have := hM.code i (by omega)
      rw [show 0 + (i + 1) * 2 = (1 + i) * 2 from by omega]
      exact this
  · cases i with
    | zero =>
      rw [show 0 + 0 * 2 + 1 = 1 from rfl, cs_same _ _ x1 _ (by rw [cs_off _ _ _ _ _ (by omega)]; exact d1)]
      rfl
    | succ i =>
      rw [cs_off _ _ _ _ _ (by omega), cs_off _ _ _ _ _ (by omega)]
      have := hM.dat i (by omega)
      rw [show 0 + (i + 1) * 2 + 1 = (1 + i) * 2 + 1 from by omega]
      exact this
  · cases i with
    | zero => exact ⟨A, n, cp, rfl, hn, hA.below hb, hA.nil_len⟩
    | succ i => exact h'.data i (by omega)

set_option maxHeartbeats 4000000 in
set_option maxRecDepth 100000 in
theorem frontMain (ao : Option Addr) (len cap : Nat) (C : Nat → Int) (V : Nat → Value) (front other : Int) (A : Option Addr) (dn dcap : Nat) (w : World) (h : OptsAt 0 w ao len C V) (hnil : ao = none → len = 0 ∧ cap = 0) (hlm : len ≤ maxLen)
    (hA : BsAt 0 w A dn) (hdm : dn ≤ maxLen) (hAn : A = none → dn = 0) :
    Calls Try.prog 5 #[.slice ao len cap, .int .u16 front, .slice A dn dcap, .int .u16 other] w fun e w' => e = .returned (.bool true) ∧ Below w.heap.size w w' := by
  have hlm' := hlm
  have hdm' := hdm
  unfold maxLen at hlm' hdm'
  go_enter Try.func5, Try.ntmps5
  go_wp2_with fail
  refine (zzBytes2_any ao len cap C V front other A dn dcap _ h hlm hdm).mono ?_
  rintro e W0 ⟨he, hw0⟩
  subst hw0
  rcases he with rfl | ⟨rfl, hbig, hd⟩
  · go_wp2_with fail
    go_ret
    exact ⟨rfl, Below.refl _ _⟩
  · have HD : Hid (∀ i, i < len → lenOf (V i) ≤ 1048576) := hd
    clear hd
    by_cases hl : len ≤ 32768
    · by_cases hdb : dn ≤ 1048576
      · go_wp2_with fail
        refine (optBytes_any ao len cap C V _ h hl HD.out).mono ?_
        rintro e W1 ⟨⟨T, rfl, hT⟩, rfl⟩
        by_cases hTb : T + 32 + dn ≤ 1048576
        · go_wp2_with fail
          refine (cloneO_any ao len cap C V _ h hnil hl HD.out).mono ?_
          rintro e W2 ⟨ao', cap', U, rfl, hU, hdU, hb2⟩
          have HDU : Hid (∀ i, i < len → lenOf (U i) ≤ 1048576) := hdU
          have hA2 := hA.below hb2
          clear hdU h hnil hA
          go_wp2_with fail
          refine (cloneB_any A dn dcap W2 hA2 hdb hAn).mono ?_
          rintro e W3 ⟨A', dcap', rfl, hA3, hb3⟩
          have hU3 := hU.below hb3
          have hA3' := hA3.lower (Nat.zero_le _)
          have hb13 : Below W1.heap.size W1 W3 := hb2.trans (hb3.mono hb2.size)
          clear hU hA2 hA3 hb2 hb3
          go_wp2_with fail
          refine (toOpts_any ao' 1 len cap' 0 C U _ hU3 hl (by omega)).mono ?_
          rintro e W4 ⟨rfl, hT4⟩
          obtain ⟨x0, d0, f0⟩ := hT4.cell 0 (by omega)
          obtain ⟨x1, d1, f1⟩ := hT4.cell 1 (by omega)
          have hlong := hT4.opts1 (front := front) (cp := dcap') hU3 hA3' hdm
          have hb14 : Below W3.heap.size W3 ((W4.setCell ⟨W3.heap.size, 0, none⟩ (.int .u16 front)).setCell ⟨W3.heap.size, 1, none⟩ (.slice A' dn dcap')) := (hT4.below.setCell (Nat.le_refl _) _).setCell (Nat.le_refl _) _
          have hi0 : (0 : Int) < 1 + (len : Int) := by omega
          go_wp2_with fail
          clear d0 d1 f0 f1 hT4
          generalize (W4.setCell ⟨W3.heap.size, 0, none⟩ (.int .u16 front)).setCell ⟨W3.heap.size, 1, none⟩ (.slice A' dn dcap') = W5 at *
          refine (get_any _ (1 + len) _ _ _ front W5 hlong (by omega)).mono ?_
          rintro e W6 ⟨hg, hb6⟩
          have hgf := hg.front
          subst hgf
          clear hg
          have hA6 := (hA3'.below hb14).below hb6
          have hlong6 := hlong.below hb6
          have hb36 : Below W3.heap.size W3 W6 := hb14.trans (hb6.mono hb14.size)
          have hU6 := hU3.below hb36
          have hb16 : Below W1.heap.size W1 W6 := hb13.trans (hb36.mono hb13.size)
          clear hA3' hb14 hlong hU3 hb13 hb36 hb6
          by_cases hof : other = front
          · have hbe : (other == front) = true := beq_iff_eq.2 hof
            clear hof
            go_wp2_with fail
            refine (same_any A' dn dcap' W6 hA6 hdb).mono ?_
            rintro e W7 ⟨rfl, nq, rfl⟩
            go_wp2_with fail
            go_ret
            exact ⟨rfl, below_drewN hb16 _⟩
          · have hbe : (other == front) = false := beq_eq_false_iff_ne.2 hof
            have HOF : Hid (¬ other = front) := hof
            clear hof
            go_wp2_with fail
            refine (same_any A' dn dcap' W6 hA6 hdb).mono ?_
            rintro e W7 ⟨rfl, nq, rfl⟩
            have hbd : Below W6.heap.size W6 (W6.drewN nq) := below_drewN (Below.refl _ _) _
            have hlong7 := hlong6.below hbd
            have hU7 := hU6.below hbd
            have hb17 := below_drewN hb16 nq
            clear hlong6 hU6 hb16 hbd hA6
            generalize W6.drewN nq = W7 at *
            go_wp2_with fail
            refine (toOpts_any ao' 0 len cap' 0 C U W7 hU7 hl (by omega)).mono ?_
            rintro e W8 ⟨rfl, hT8⟩
            have hbase8 := hT8.opts0 hU7
            have hlong8 := hlong7.below hT8.below
            have hU8 := hU7.below hT8.below
            have hb18 : Below W1.heap.size W1 W8 := hb17.trans (hT8.below.mono hb17.size)
            clear hlong7 hU7 hb17 hT8
            go_wp2_with fail
            refine (get_any _ (1 + len) _ _ _ other W8 hlong8 (by omega)).mono ?_
            rintro e W9 ⟨hg2, hb9⟩
            have hg2' := hg2.rest (fun e => HOF.out e.symm)
            have hbase9 := hbase8.below hb9
            have hU9 := hU8.below hb9
            have hb19 : Below W1.heap.size W1 W9 := hb18.trans (hb9.mono hb18.size)
            clear hg2 hbase8 hlong8 hU8 hb18 hb9
            have hgu := fun e' (h' : GetE len C U other e') => hg2'.unique h'
            obtain ⟨k, hk, hno, hres⟩ := hg2'
            clear hno
            rcases hres with ⟨hkl, hck, rfl⟩ | ⟨hkl, rfl⟩
            · have HGU : Hid (∀ e', GetE len C U other e' → e' = .returned (.tuple #[U k, .bool true])) := hgu
              clear hgu hck
              obtain ⟨A9, n9, cp9, hUk, _, hbs9, _⟩ := hU9.data k hkl
              have hn9 : n9 ≤ 1048576 := by have := HDU.out k hkl; rw [hUk] at this; exact this
              rw [hUk]
              have HUK : Hid (U k = .slice A9 n9 cp9) := hUk
              clear hUk
              go_wp2_with fail
              refine (get_any _ len _ C U other W9 hbase9 (by omega)).mono ?_
              rintro e W10 ⟨hg3, hb10⟩
              have he3 := HGU.out _ hg3
              subst he3
              rw [HUK.out]
              clear hg3 HGU
              have hbs10 := hbs9.below hb10
              go_wp2_with fail
              refine (same_any A9 n9 cp9 W10 hbs10 hn9).mono ?_
              rintro e W11 ⟨rfl, nq2, rfl⟩
              go_wp2_with fail
              go_ret
              exact ⟨rfl, below_drewN (hb19.trans (hb10.mono hb19.size)) _⟩
            · have HGU : Hid (∀ e', GetE len C U other e' → e' = .returned (.tuple #[.slice none 0 0, .bool false])) := hgu
              clear hgu
              go_wp2_with fail
              refine (get_any _ len _ C U other W9 hbase9 (by omega)).mono ?_
              rintro e W10 ⟨hg3, hb10⟩
              have he3 := HGU.out _ hg3
              subst he3
              clear hg3 HGU
              go_wp2_with fail
              refine (same_any none 0 0 W10 (BsAt.nil _ _ _) (by omega)).mono ?_
              rintro e W11 ⟨rfl, nq2, rfl⟩
              go_wp2_with fail
              go_ret
              exact ⟨rfl, below_drewN (hb19.trans (hb10.mono hb19.size)) _⟩
        · go_wp2_with fail
          go_ret
          exact ⟨rfl, Below.refl _ _⟩
      · go_wp2_with fail
        go_ret
        exact ⟨rfl, Below.refl _ _⟩
    · go_wp2_with fail
      go_ret
      exact ⟨rfl, Below.refl _ _⟩
end Go.Proofs.Qxb6605475a
