import Derived.Test.Qxb6605475aToO
namespace Go.Proofs.Qxb6605475a
open Go.RowKit

/-- What zzCloneOpts answers: as many options of the same codes, in new memory. -/
def CloneOE (len : Nat) (C : Nat → Int) (e : Ending) (w w' : World) : Prop :=
  ∃ ao' cap' U, e = .returned (.slice ao' len cap') ∧ OptsAt 0 w' ao' len C U ∧ (∀ i, i < len → lenOf (U i) ≤ 1048576) ∧ Below w.heap.size w w'

theorem OptsAt.zero {lo : Nat} {w : World} {ao : Option Addr} {len : Nat} {C : Nat → Int} {V : Nat → Value} (h : OptsAt lo w ao len C V) : OptsAt 0 w ao len C V :=
  ⟨h.cell, fun i hi => by
    obtain ⟨A, n, cap, h1, h2, h3, h4⟩ := h.data i hi
    exact ⟨A, n, cap, h1, h2, h3.lower (Nat.zero_le _), h4⟩⟩

set_option maxHeartbeats 1000000 in
theorem cloneO_any (ao : Option Addr) (len cap : Nat) (C : Nat → Int) (V : Nat → Value) (w : World) (h : OptsAt 0 w ao len C V) (hnil : ao = none → len = 0 ∧ cap = 0) (hl : len ≤ 32768) (hd : ∀ i, i < len → lenOf (V i) ≤ 1048576) :
    Calls Try.prog 10 #[.slice ao len cap] w fun e w' => CloneOE len C e w w' := by
  cases ao with
  | none =>
    obtain ⟨rfl, rfl⟩ := hnil rfl
    clear h hnil hd
    have hnq := fun (w : World) => Lib.run_eql_slice_nil (P := Try.prog) w 25 38 none 0 0 0 0 Try.underlying25
    go_enter Try.func10, Try.ntmps10
    go_wp2_with fail
    go_ret
    exact ⟨none, 0, V, rfl, ⟨fun i hi => absurd hi (by omega), fun i hi => absurd hi (by omega)⟩, fun i hi => absurd hi (by omega), Below.refl _ _⟩
  | some x =>
    refine (cloneO_row x len cap C V w h hl hd).mono ?_
    rintro e w' ⟨U, rfl, h1, h2, h3⟩
    exact ⟨_, _, U, rfl, h1.zero, h2.out, h3⟩

/-- The least index from p on with the code, or -1. -/
def IdxR (len : Nat) (C : Nat → Int) (code : Int) (p : Nat) (x : Int) : Prop :=
  (x = -1 ∧ ∀ j, p ≤ j → j < len → ¬ C j = code) ∨ ∃ m : Nat, x = m ∧ p ≤ m ∧ m < len ∧ C m = code ∧ ∀ j, p ≤ j → j < m → ¬ C j = code

theorem IdxR.hit {len : Nat} {C : Nat → Int} {code : Int} {p : Nat} (hp : p < len) (hc : C p = code) : IdxR len C code p (p : Int) :=
  .inr ⟨p, rfl, Nat.le_refl _, hp, hc, fun j h1 h2 => absurd h2 (by omega)⟩
theorem IdxR.miss {len : Nat} {C : Nat → Int} {code : Int} {p : Nat} {x : Int} (h : IdxR len C code (p + 1) x) (hc : ¬ C p = code) : IdxR len C code p x := by
  rcases h with ⟨h1, h2⟩ | ⟨m, h1, h2, h3, h4, h5⟩
  · exact .inl ⟨h1, fun j hj hl => by
      by_cases e : j = p
      · rw [e]; exact hc
      · exact h2 j (by omega) hl⟩
  · exact .inr ⟨m, h1, by omega, h3, h4, fun j hj hl => by
      by_cases e : j = p
      · rw [e]; exact hc
      · exact h5 j (by omega) hl⟩

set_option maxHeartbeats 4000000 in
set_option maxRecDepth 100000 in
theorem firstMain (ao : Option Addr) (len cap : Nat) (C : Nat → Int) (V : Nat → Value) (code : Int) (w : World) (h : OptsAt 0 w ao len C V) (hnil : ao = none → len = 0 ∧ cap = 0) (hlm : len ≤ maxLen) :
    Calls Try.prog 4 #[.slice ao len cap, .int .u16 code] w fun e w' => e = .returned (.bool true) ∧ Below w.heap.size w w' := by
  have hlm' := hlm
  unfold maxLen at hlm'
  go_enter Try.func4, Try.ntmps4
  go_wp2_with fail
  refine (zzBytes_any ao len cap C V code _ h hlm).mono ?_
  rintro e W0 ⟨he, hw0⟩
  subst hw0
  rcases he with rfl | ⟨rfl, hbig, hd⟩
  · go_wp2_with fail
    go_ret
    exact ⟨rfl, Below.refl _ _⟩
  · have HD : Hid (∀ i, i < len → lenOf (V i) ≤ 1048576) := hd
    clear hd
    by_cases hl : len ≤ 32768
    · go_wp2_with fail
      refine (optBytes_any ao len cap C V _ h hl HD.out).mono ?_
      rintro e W1 ⟨⟨T, rfl, hT⟩, rfl⟩
      by_cases hTb : T ≤ 1048576
      · go_wp2_with fail
        refine (cloneO_any ao len cap C V _ h hnil hl HD.out).mono ?_
        rintro e W2 ⟨ao', cap', U, rfl, hU, hdU, hb2⟩
        have HDU : Hid (∀ i, i < len → lenOf (U i) ≤ 1048576) := hdU
        clear hdU
        go_wp2_with fail
        refine (toOpts_any ao' 0 len cap' 0 C U _ hU hl (by omega)).mono ?_
        rintro e W3 ⟨rfl, hT3⟩
        go_wp2_with fail
        refine (get_any _ len _ C U code _ (hT3.opts0 hU) (by omega)).mono ?_
        rintro e W4 ⟨⟨k, hk, hno, hres⟩, hb4⟩
        have hb23 : Below W2.heap.size W2 W4 := hT3.below.trans (hb4.mono hT3.below.size)
        have hU4 := hU.below hb23
        have hbel4 : Below W1.heap.size W1 W4 := hb2.trans (hb23.mono hb2.size)
        have HGET : Hid True := trivial
        have hnq := fun (w : World) => Lib.run_eql_slice_nil (P := Try.prog) w 33 5 none 0 0 0 0 Try.underlying33
        clear hT3 hU hb2 hb4 hb23 h hnil
        rcases hres with ⟨hkl, hck, rfl⟩ | ⟨hkl, rfl⟩
        · obtain ⟨A, n, cp, hUk, _, hbs4, _⟩ := hU4.data k hkl
          have hn4 : n ≤ 1048576 := by have := HDU.out k hkl; rw [hUk] at this; exact this
          rw [hUk]
          have HUK : Hid (.slice A n cp = U k) := hUk.symm
          clear hUk
          clear HGET
          go_wp2_with fail
          go_loop [8, 9] (fun s i => ∃ (p : Nat) (x : Int), p ≤ len ∧ i = .int .i64 ((p : Int) - 1) ∧ s = .int .i64 x ∧ IdxR len C code p x) (fun _ i => (intOf i + 1).toNat)
          case atStart => exact ⟨len, -1, Nat.le_refl _, rfl, rfl, .inl ⟨rfl, fun j h1 h2 => absurd h2 (by omega)⟩⟩
          case round =>
            obtain ⟨p, x, hp, rfl, rfl, hI⟩ := hrel
            cases p with
            | zero =>
              have hx : x = (k : Int) := by
                rcases hI with ⟨_, h2⟩ | ⟨m, h1, _, h3, h4, h5⟩
                · exact absurd hck (h2 k (Nat.zero_le _) hkl)
                · by_cases a : k < m
                  · exact absurd hck (h5 k (Nat.zero_le _) a)
                  · by_cases b : m < k
                    · exact absurd h4 (hno m b)
                    · omega
              subst hx
              clear hI
              have HK : Hid (C k = code) := hck
              clear hck
              obtain ⟨b, off, hx, hc, hv⟩ := hU4.cell k hkl
              subst hx
              rw [← HUK.out] at hv
              have hkI : (k : Int) < (len : Int) := by omega
              have hk0 : ¬ (k : Int) < 0 := by omega
              go_wp2_with fail
              refine (same_any A n cp _ hbs4 hn4).mono ?_
              rintro e W5 ⟨rfl, nq, rfl⟩
              go_wp2_with fail
              go_ret
              exact ⟨rfl, below_drewN hbel4 _⟩

            | succ p =>
              obtain ⟨b, off, hx, hc, hv⟩ := hU4.cell p (by omega)
              subst hx
              have hpI : (p : Int) < (len : Int) := by omega
              have hge : (0 : Int) ≤ (p : Int) := by omega
              rw [show ((p + 1 : Nat) : Int) - 1 = (p : Int) from by omega]
              obtain ⟨c, hcc⟩ : ∃ c, c = C p := ⟨_, rfl⟩
              rw [← hcc] at hc
              have HC : Hid (c = C p) := hcc
              clear hcc hv
              by_cases he : c = code
              · have hbe : (c == code) = true := beq_iff_eq.2 he
                have HE : Hid (c = code) := he
                clear he
                go_wp2_with fail
                go_round
                case rel => exact ⟨p, (p : Int), by omega, rfl, rfl, IdxR.hit (by omega) (HC.out.symm.trans HE.out)⟩
                case measure => simp [intOf]
              · have hbe : (c == code) = false := beq_eq_false_iff_ne.2 he
                have HE : Hid (¬ c = code) := he
                clear he
                go_wp2_with fail
                go_round
                case rel => exact ⟨p, x, by omega, rfl, rfl, hI.miss (by rw [← HC.out]; exact HE.out)⟩
                case measure => simp [intOf]
        · subst hkl
          clear HGET
          go_wp2_with fail
          go_loop [8, 9] (fun s i => ∃ (p : Nat) (x : Int), p ≤ k ∧ i = .int .i64 ((p : Int) - 1) ∧ s = .int .i64 x ∧ IdxR k C code p x) (fun _ i => (intOf i + 1).toNat)
          case atStart => exact ⟨k, -1, Nat.le_refl _, rfl, rfl, .inl ⟨rfl, fun j h1 h2 => absurd h2 (by omega)⟩⟩
          case round =>
            obtain ⟨p, x, hp, rfl, rfl, hI⟩ := hrel
            cases p with
            | zero =>
              have hx : x = -1 := by
                rcases hI with ⟨h1, _⟩ | ⟨m, h1, _, h3, h4, h5⟩
                · exact h1
                · exact absurd h4 (hno m (by omega))
              subst hx
              clear hI
              go_wp2_with fail
              go_ret
              exact ⟨rfl, hbel4⟩

            | succ p =>
              obtain ⟨b, off, hx, hc, hv⟩ := hU4.cell p (by omega)
              subst hx
              have hpI : (p : Int) < (k : Int) := by omega
              have hge : (0 : Int) ≤ (p : Int) := by omega
              rw [show ((p + 1 : Nat) : Int) - 1 = (p : Int) from by omega]
              obtain ⟨c, hcc⟩ : ∃ c, c = C p := ⟨_, rfl⟩
              rw [← hcc] at hc
              have HC : Hid (c = C p) := hcc
              clear hcc hv
              by_cases he : c = code
              · have hbe : (c == code) = true := beq_iff_eq.2 he
                have HE : Hid (c = code) := he
                clear he
                go_wp2_with fail
                go_round
                case rel => exact ⟨p, (p : Int), by omega, rfl, rfl, IdxR.hit (by omega) (HC.out.symm.trans HE.out)⟩
                case measure => simp [intOf]
              · have hbe : (c == code) = false := beq_eq_false_iff_ne.2 he
                have HE : Hid (¬ c = code) := he
                clear he
                go_wp2_with fail
                go_round
                case rel => exact ⟨p, x, by omega, rfl, rfl, hI.miss (by rw [← HC.out]; exact HE.out)⟩
                case measure => simp [intOf]
      · go_wp2_with fail
        go_ret
        exact ⟨rfl, Below.refl _ _⟩
    · go_wp2_with fail
      go_ret
      exact ⟨rfl, Below.refl _ _⟩
end Go.Proofs.Qxb6605475a
