/-
  PLAIN LISTS: where a JSON value ends. 'sE': the rest of a string (mode 1: behind a backslash). 'run': the scan by depth (mode 0: outside a string; 1: in a string; 2: behind a backslash). Each answers how many bytes it takes.
-/
namespace Go.Proofs.Qxb6605362a

def sE : Nat → List Int → Nat
  | _, [] => 0
  | m, c :: l => if m = 1 then 1 + sE 0 l else if c = 34 then 1 else if c = 92 then 1 + sE 1 l else 1 + sE 0 l

def scan : Nat → Nat → List Int → Nat
  | _, _, [] => 0
  | m, d, c :: l =>
    if m = 2 then 1 + scan 1 d l
    else if m = 1 then (if c = 34 then (if d = 0 then 1 else 1 + scan 0 d l) else if c = 92 then 1 + scan 2 d l else 1 + scan 1 d l)
    else if c = 34 then 1 + scan 1 d l
    else if c = 123 ∨ c = 91 then 1 + scan 0 (d + 1) l
    else if c = 125 ∨ c = 93 then (if d = 0 then 0 else if d = 1 then 1 else 1 + scan 0 (d - 1) l)
    else if c = 44 ∨ c = 58 ∨ c = 32 ∨ c = 9 ∨ c = 10 ∨ c = 13 then (if d = 0 then 0 else 1 + scan 0 d l)
    else 1 + scan 0 d l

theorem drop1 (c : Int) (l : List Int) (k : Nat) : (c :: l).drop (1 + k) = l.drop k := by
  rw [Nat.add_comm, List.drop_succ_cons]

theorem sE_le (l : List Int) : ∀ m, sE m l ≤ l.length := by
  induction l with
  | nil => intro m; simp [sE]
  | cons c l ih =>
    intro m
    have h0 := ih 0
    have h1 := ih 1
    unfold sE
    simp only [List.length_cons]
    repeat' split
    all_goals omega

theorem scan_le (l : List Int) : ∀ m d, scan m d l ≤ l.length := by
  induction l with
  | nil => intro m d; simp [scan]
  | cons c l ih =>
    intro m d
    have h1 := ih 1 d
    have h2 := ih 2 d
    have h0 := ih 0 d
    have h3 := ih 0 (d + 1)
    have h4 := ih 0 (d - 1)
    unfold scan
    simp only [List.length_cons]
    repeat' split
    all_goals omega

/-- In a string the scan takes the string, and goes on behind it unless it stood at depth 0. -/
theorem scan_str (l : List Int) (d : Nat) :
    (scan 1 d l = if d = 0 then sE 0 l else sE 0 l + scan 0 d (l.drop (sE 0 l))) ∧
    (scan 2 d l = if d = 0 then sE 1 l else sE 1 l + scan 0 d (l.drop (sE 1 l))) := by
  induction l with
  | nil => simp [scan, sE]
  | cons c l ih =>
    obtain ⟨i1, i2⟩ := ih
    constructor
    · by_cases h34 : c = 34
      · subst h34
        by_cases hd : d = 0 <;> simp [scan, sE, hd]
      · by_cases h92 : c = 92
        · subst h92
          by_cases hd : d = 0
          · simp [scan, sE, hd] at i2 ⊢; exact i2
          · simp only [hd, if_false] at i2
            simp [scan, sE, hd, i2, Nat.add_assoc, Nat.add_comm 1, List.drop_succ_cons]
        · by_cases hd : d = 0
          · simp [scan, sE, hd, h34, h92] at i1 ⊢; exact i1
          · simp only [hd, if_false] at i1
            simp [scan, sE, hd, h34, h92, i1, Nat.add_assoc, Nat.add_comm 1, List.drop_succ_cons]
    · by_cases hd : d = 0
      · simp [scan, sE, hd] at i1 ⊢; exact i1
      · simp only [hd, if_false] at i1
        simp [scan, sE, hd, i1, Nat.add_assoc, Nat.add_comm 1, List.drop_succ_cons]

/-- The scan at depth e + d + 1 comes to the end of the e inner groups first. -/
theorem scan_split (l : List Int) : ∀ (m e d : Nat), scan m (e + 1 + (d + 1)) l = scan m (e + 1) l + scan 0 (d + 1) (l.drop (scan m (e + 1) l)) := by
  induction l with
  | nil => intro m e d; simp [scan]
  | cons c l ih =>
    intro m e d
    by_cases h2 : m = 2
    · subst h2
      have := ih 1 e d
      simp [scan, this, Nat.add_comm 1, List.drop_succ_cons]; omega
    by_cases h1 : m = 1
    · subst h1
      have i0 := ih 0 e d
      have i1 := ih 1 e d
      have i2 := ih 2 e d
      by_cases h34 : c = 34
      · simp [scan, h34, i0, Nat.add_comm 1, List.drop_succ_cons]; omega
      · by_cases h92 : c = 92
        · simp [scan, h92, i2, Nat.add_comm 1, List.drop_succ_cons]; omega
        · simp [scan, h34, h92, i1, Nat.add_comm 1, List.drop_succ_cons]; omega
    have i0 := ih 0 e d
    have i1 := ih 1 e d
    by_cases h34 : c = 34
    · simp [scan, h1, h2, h34, i1, Nat.add_comm 1, List.drop_succ_cons]; omega
    by_cases hop : c = 123 ∨ c = 91
    · have := ih 0 (e + 1) d
      rw [show e + 1 + 1 + (d + 1) = e + 1 + (d + 1) + 1 from by omega] at this
      simp only [scan, h1, h2, h34, hop, if_true, if_false]
      rw [this, drop1]; omega
    by_cases hcl : c = 125 ∨ c = 93
    · cases e with
      | zero =>
        simp only [scan, h1, h2, h34, hop, hcl, if_true, if_false]
        simp
      | succ e =>
        have := ih 0 e d
        simp only [scan, h1, h2, h34, hop, hcl, if_true, if_false]
        rw [if_neg (by omega), if_neg (by omega), if_neg (by omega), if_neg (by omega)]
        rw [show e + 1 + 1 + (d + 1) - 1 = e + 1 + (d + 1) from by omega, show e + 1 + 1 - 1 = e + 1 from by omega, this, drop1]
        omega
    by_cases hst : c = 44 ∨ c = 58 ∨ c = 32 ∨ c = 9 ∨ c = 10 ∨ c = 13
    · simp only [scan, h1, h2, h34, hop, hcl, hst, if_true, if_false]
      rw [if_neg (by omega), if_neg (by omega), i0, drop1]
      omega
    · simp only [scan, h1, h2, h34, hop, hcl, hst, if_false]
      rw [i0, drop1]
      omega
end Go.Proofs.Qxb6605362a
