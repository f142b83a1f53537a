import Derived.Test.Qxb6605362aStr
namespace Go.Proofs.Qxb6605362a
open Go.RowKit

/-- What is left of the scan at depth d and place p comes to R. -/
def At (zs : List Int) (d p R : Nat) : Prop := p + scan 0 d (zs.drop p) = R

theorem At.done {zs : List Int} {d p R : Nat} (h : At zs d p R) (hp : zs.length ≤ p) : R = p := by
  unfold At at h
  rw [List.drop_of_length_le hp] at h
  simp [scan] at h
  omega

/-- A string at depth 0: its end is the answer. -/
theorem At.str0 {zs : List Int} {p R : Nat} (h : At zs 0 p R) (hp : p < zs.length) (hc : zs.getD p 0 = 34) : StrAt zs 0 (p + 1) R := by
  unfold At at h
  unfold StrAt
  rw [drop_at zs p hp, hc] at h
  have e := (scan_str (zs.drop (p + 1)) 0).1
  simp [scan] at h e
  omega

/-- A string at another depth: the scan goes on behind it. -/
theorem At.str {zs : List Int} {d p R : Nat} (h : At zs (d + 1) p R) (hp : p < zs.length) (hc : zs.getD p 0 = 34) : ∃ S, StrAt zs 0 (p + 1) S ∧ S ≤ zs.length ∧ p < S ∧ At zs (d + 1) S R := by
  unfold At at h
  rw [drop_at zs p hp, hc] at h
  have e := (scan_str (zs.drop (p + 1)) (d + 1)).1
  have hle := sE_le (zs.drop (p + 1)) 0
  rw [List.length_drop] at hle
  refine ⟨p + 1 + sE 0 (zs.drop (p + 1)), rfl, by omega, by omega, ?_⟩
  unfold At
  simp [scan] at h e
  omega

theorem At.op {zs : List Int} {d p R : Nat} (h : At zs d p R) (hp : p < zs.length) (hc : zs.getD p 0 = 123 ∨ zs.getD p 0 = 91) : At zs (d + 1) (p + 1) R := by
  unfold At at *
  rw [drop_at zs p hp] at h
  rw [scan, if_neg (by omega), if_neg (by omega), if_neg (by omega), if_pos hc] at h
  omega

/-- An inner group, taken whole. -/
theorem At.group {zs : List Int} {d p R : Nat} (h : At zs (d + 1) p R) (hp : p < zs.length) (hc : zs.getD p 0 = 123 ∨ zs.getD p 0 = 91) : ∃ S, At zs 1 (p + 1) S ∧ S ≤ zs.length ∧ p < S ∧ At zs (d + 1) S R := by
  have h' := h.op hp hc
  unfold At at h'
  have e := scan_split (zs.drop (p + 1)) 0 0 d
  have hle := scan_le (zs.drop (p + 1)) 0 1
  rw [List.length_drop] at hle
  refine ⟨p + 1 + scan 0 1 (zs.drop (p + 1)), rfl, by omega, by omega, ?_⟩
  unfold At
  rw [List.drop_drop] at e
  rw [show 0 + 1 + (d + 1) = d + 1 + 1 from by omega, show 0 + 1 = 1 from rfl] at e
  omega

theorem At.cl {zs : List Int} {d p R : Nat} (h : At zs d p R) (hp : p < zs.length) (hc : zs.getD p 0 = 125 ∨ zs.getD p 0 = 93) :
    (d = 0 → R = p) ∧ (d = 1 → R = p + 1) ∧ (2 ≤ d → At zs (d - 1) (p + 1) R) := by
  unfold At at *
  rw [drop_at zs p hp] at h
  rw [scan, if_neg (by omega), if_neg (by omega), if_neg (by omega), if_neg (by omega), if_pos hc] at h
  refine ⟨fun e => ?_, fun e => ?_, fun e => ?_⟩
  · rw [if_pos e] at h; omega
  · rw [if_neg (by omega), if_pos e] at h; omega
  · rw [if_neg (by omega), if_neg (by omega)] at h; omega

theorem At.stop {zs : List Int} {d p R : Nat} (h : At zs d p R) (hp : p < zs.length) (hc : zs.getD p 0 = 44 ∨ zs.getD p 0 = 58 ∨ zs.getD p 0 = 32 ∨ zs.getD p 0 = 9 ∨ zs.getD p 0 = 10 ∨ zs.getD p 0 = 13) :
    (d = 0 → R = p) ∧ (¬ d = 0 → At zs d (p + 1) R) := by
  unfold At at *
  rw [drop_at zs p hp] at h
  rw [scan, if_neg (by omega), if_neg (by omega), if_neg (by omega), if_neg (by omega), if_neg (by omega), if_pos hc] at h
  refine ⟨fun e => ?_, fun e => ?_⟩
  · rw [if_pos e] at h; omega
  · rw [if_neg e] at h; omega

/-- None of the bytes that the scan heeds. -/
def plainB (c : Int) : Prop := ¬ c = 34 ∧ ¬ c = 123 ∧ ¬ c = 91 ∧ ¬ c = 125 ∧ ¬ c = 93 ∧ ¬ c = 44 ∧ ¬ c = 58 ∧ ¬ c = 32 ∧ ¬ c = 9 ∧ ¬ c = 10 ∧ ¬ c = 13

theorem At.plain {zs : List Int} {d p R : Nat} (h : At zs d p R) (hp : p < zs.length) (hc : plainB (zs.getD p 0)) : At zs d (p + 1) R := by
  unfold At at *
  unfold plainB at hc
  rw [drop_at zs p hp] at h
  rw [scan, if_neg (by omega), if_neg (by omega), if_neg (by omega), if_neg (by omega), if_neg (by omega), if_neg (by omega)] at h
  omega

theorem kinds_of (c : Int) : c = 34 ∨ (c = 123 ∨ c = 91) ∨ (c = 125 ∨ c = 93) ∨ (c = 44 ∨ c = 58 ∨ c = 32 ∨ c = 9 ∨ c = 10 ∨ c = 13) ∨ plainB c := by
  unfold plainB; omega

/-- None of the bytes that a group heeds. -/
theorem At.inner {zs : List Int} {d p R : Nat} (h : At zs (d + 1) p R) (hp : p < zs.length) (h1 : ¬ zs.getD p 0 = 34) (h2 : ¬ zs.getD p 0 = 123) (h3 : ¬ zs.getD p 0 = 91) (h4 : ¬ zs.getD p 0 = 125) (h5 : ¬ zs.getD p 0 = 93) : At zs (d + 1) (p + 1) R := by
  rcases kinds_of (zs.getD p 0) with hc | hc | hc | hc | hc
  · exact absurd hc h1
  · omega
  · omega
  · exact (h.stop hp hc).2 (by omega)
  · exact h.plain hp hc

set_option maxHeartbeats 2000000 in
set_option maxRecDepth 100000 in
theorem groupEnd_any (n : Nat) : ∀ (ao : Option Addr) (len cap : Nat) (zs : List Int) (p R : Nat) (w : World), Rd w ao len zs → p ≤ len → len - p ≤ n → len ≤ 1048576 → At zs 1 p R →
    Calls Try.prog 24 #[.slice ao len cap, .int .i64 p] w fun e w' => e = .returned (.int .i64 R) ∧ w' = w := by
  induction n with
  | zero =>
    intro ao len cap zs p R w hr hp hn hl hR
    have hzl := hr.hlen
    have hfin : R = p := hR.done (by omega)
    have hpl : p = len := by omega
    clear hR
    subst hfin
    subst hpl
    go_enter Try.func24, Try.ntmps24
    go_wp2_with fail
    refine wp_loop_rounds 1 ?_
    rw [rounds_succ]
    go_wp2_with fail
    go_ret
    exact ⟨rfl, rfl⟩
  | succ n ih =>
    intro ao len cap zs p R w hr hp hn hl hR
    have IH := ih
    have IH : Hid (∀ (ao : Option Addr) (len cap : Nat) (zs : List Int) (p R : Nat) (w : World), Rd w ao len zs → p ≤ len → len - p ≤ n → len ≤ 1048576 → At zs 1 p R →
      Calls Try.prog 24 #[.slice ao len cap, .int .i64 p] w fun e w' => e = .returned (.int .i64 R) ∧ w' = w) := ih
    clear ih
    have hzl := hr.hlen
    go_enter Try.func24, Try.ntmps24
    go_wp2_with fail
    go_loop [1] (fun q => ∃ k : Nat, p ≤ k ∧ k ≤ len ∧ q = .int .i64 k ∧ At zs 1 k R) (fun q => len - (intOf q).toNat)
    case atStart => exact ⟨p, Nat.le_refl _, hp, rfl, hR⟩
    case round =>
      obtain ⟨k, hpk, hk, rfl, HA⟩ := hrel
      clear hR
      by_cases hlt : k < len
      · obtain ⟨b, rfl, hc⟩ := hr.cell k hlt
        have hlt' : (k : Int) < (len : Int) := by omega
        obtain ⟨c, hcc⟩ : ∃ c, c = zs.getD k 0 := ⟨_, rfl⟩
        rw [← hcc] at hc
        have HC : Hid (c = zs.getD k 0) := hcc
        clear hcc
        by_cases h34 : c = 34
        · subst h34
          obtain ⟨S, hS, hS1, hS2, hA⟩ := HA.str (by omega) HC.out.symm
          go_wp2_with (go_at_call 23; refine (quoteEnd_any _ len cap zs k S _ hr hlt hl hS).mono ?_; rintro e w' ⟨rfl, rfl⟩)
          go_round
          case rel => exact ⟨S, by omega, by omega, rfl, hA⟩
          case measure => simp [intOf]; omega
        · have b1 : (c == 34) = false := beq_eq_false_iff_ne.2 h34
          have H1 : Hid (¬ c = 34) := h34
          clear h34
          by_cases hop : c = 123 ∨ c = 91
          · obtain ⟨S, hS, hS1, hS2, hA⟩ := HA.group (by omega) (by rw [← HC.out]; exact hop)
            rcases hop with rfl | rfl
            all_goals
              go_wp2_with (go_at_call 24; refine (IH.out _ len cap zs (k + 1) S _ hr (by omega) (by omega) hl hS).mono ?_; rintro e w' ⟨rfl, rfl⟩)
              go_round
              case rel => exact ⟨S, by omega, by omega, rfl, hA⟩
              case measure => simp [intOf]; omega
          · have b2 : (c == 123) = false := beq_eq_false_iff_ne.2 (by omega)
            have b3 : (c == 91) = false := beq_eq_false_iff_ne.2 (by omega)
            have H2 : Hid (¬ (c = 123 ∨ c = 91)) := hop
            clear hop
            by_cases hcl : c = 125 ∨ c = 93
            · have hfin := (HA.cl (by omega) (by rw [← HC.out]; exact hcl)).2.1 rfl
              rcases hcl with rfl | rfl
              all_goals
                go_wp2_with fail
                go_ret
                exact ⟨by subst hfin; rfl, rfl⟩
            · have b4 : (c == 125) = false := beq_eq_false_iff_ne.2 (by omega)
              have b5 : (c == 93) = false := beq_eq_false_iff_ne.2 (by omega)
              have H3 : Hid (¬ (c = 125 ∨ c = 93)) := hcl
              clear hcl
              go_wp2_with fail
              go_round
              case rel =>
                refine ⟨k + 1, by omega, by omega, by go_num, ?_⟩
                have h1 := H1.out
                have h2 := H2.out
                have h3 := H3.out
                rw [HC.out] at h1 h2 h3
                exact HA.inner (by omega) h1 (by omega) (by omega) (by omega) (by omega)
              case measure => simp [intOf]; omega
      · have hfin : R = k := HA.done (by omega)
        have hkl : k = len := by omega
        clear HA
        subst hfin
        subst hkl
        go_wp2_with fail
        go_ret
        exact ⟨rfl, rfl⟩
end Go.Proofs.Qxb6605362a
