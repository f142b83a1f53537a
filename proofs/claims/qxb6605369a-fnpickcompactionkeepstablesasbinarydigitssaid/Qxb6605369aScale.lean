import Derived.Test.Qxb6605369aPick
import Derived.Test.Qxb6605369aBin
namespace Go.Proofs.Qxb6605369a
open Go.RowKit

/-- The weights L, each times c. -/
def scale (c : Int) (L : List Nat) : List Int := L.map fun (p : Nat) => c * (p : Int)

theorem scale_length (c : Int) (L : List Nat) : (scale c L).length = L.length := by simp [scale]
theorem scale_at (c : Int) (L : List Nat) (j : Nat) : (scale c L).getD j 0 = c * ((L.getD j 0 : Nat) : Int) := by
  by_cases h : j < L.length
  · simp [scale, List.getD, List.getElem?_eq_getElem h]
  · simp [scale, List.getD, List.getElem?_eq_none (Nat.le_of_not_lt h)]

theorem sum_take_le (L : List Nat) (j : Nat) : (L.take j).sum ≤ L.sum := by
  induction L generalizing j with
  | nil => simp
  | cons a L ih =>
    cases j with
    | zero => simp
    | succ j => simp [ih j]

theorem take_sum_succ (L : List Nat) (j : Nat) (h : j < L.length) : (L.take (j + 1)).sum = (L.take j).sum + L.getD j 0 := by
  rw [List.take_succ_eq_append_getElem h, List.sum_append]
  simp [List.getD, List.getElem?_eq_getElem h]

theorem mul_bd (c : Int) (a b : Nat) (hc0 : 1 ≤ c) (hc1 : c ≤ 9007199254740992) (hab : a ≤ b) (hb : b ≤ 511) : 0 ≤ c * (a : Int) ∧ c * (a : Int) ≤ 4611686018427387904 := by
  constructor
  · exact Int.mul_nonneg (by omega) (by omega)
  · have h1 : c * (a : Int) ≤ 9007199254740992 * (a : Int) := Int.mul_le_mul_of_nonneg_right hc1 (by omega)
    omega

theorem psum_scale (c : Int) (L : List Nat) (hc0 : 1 ≤ c) (hc1 : c ≤ 9007199254740992) (hs : L.sum ≤ 511) (j : Nat) (hj : j ≤ L.length) : psum (scale c L) j = c * (((L.take j).sum : Nat) : Int) := by
  induction j with
  | zero => simp [psum]
  | succ j ih =>
    have h1 := ih (by omega)
    have h2 := take_sum_succ L j (by omega)
    have h3 := mul_bd c _ _ hc0 hc1 (sum_take_le L (j + 1)) hs
    show wrap64 (psum (scale c L) j + (scale c L).getD j 0) = _
    rw [h1, scale_at, ← Int.mul_add, ← Int.natCast_add, ← h2]
    unfold wrap64
    omega

theorem Run.unique {zs : List Int} {n m : Nat} (h : Run zs n) (k : Run zs m) : n = m := by
  have h1 := h.hi
  have h2 := k.hi
  by_cases a : n < m
  · obtain ⟨h3, h4⟩ := h.stop (by omega)
    have := k.ok n h3 a
    omega
  · by_cases b : m < n
    · obtain ⟨h3, h4⟩ := k.stop (by omega)
      have := h.ok m h3 b
      omega
    · omega

theorem mul_le_iff (c : Int) (a b : Nat) (hc : 1 ≤ c) (h : a ≤ b) : c * (a : Int) ≤ c * (b : Int) := Int.mul_le_mul_of_nonneg_left (by omega) (by omega)
theorem mul_lt_iff (c : Int) (a b : Nat) (hc : 1 ≤ c) (h : a < b) : c * (a : Int) < c * (b : Int) := Int.mul_lt_mul_of_pos_left (by omega) (by omega)

theorem run_scale (c : Int) (L : List Nat) (hc0 : 1 ≤ c) (hc1 : c ≤ 9007199254740992) (hs : L.sum ≤ 511) (e : Nat) (h : runB L e = true) : Run (scale c L) e := by
  simp only [runB, Bool.and_eq_true, Bool.or_eq_true, decide_eq_true_eq, List.all_eq_true, List.mem_range, beq_iff_eq] at h
  obtain ⟨⟨h1, h2⟩, h3⟩ := h
  refine ⟨by rw [scale_length]; exact h1, fun j hj0 hje => ?_, fun hlt => ?_⟩
  · rw [scale_at, psum_scale c L hc0 hc1 hs j (by omega)]
    rcases h2 j hje with h | h
    · omega
    · exact mul_le_iff c _ _ hc0 h
  · rw [scale_length] at hlt
    rcases h3 with h | ⟨h4, h5⟩
    · omega
    · refine ⟨h4, ?_⟩
      rw [scale_at, psum_scale c L hc0 hc1 hs e h1]
      exact mul_lt_iff c _ _ hc0 h5

/-- The tables that stand are not compacted. -/
theorem pick_still (c : Int) (k : Nat) (hk : k < 510) (hc0 : 1 ≤ c) (hc1 : c ≤ 9007199254740992) {f e : Int} {fd : Bool} (h : PickR (scale c (dg (k + 1))) f e fd) : fd = false := by
  have F := facts k hk
  simp only [factB, Bool.and_eq_true, decide_eq_true_eq] at F
  obtain ⟨⟨⟨⟨⟨F1, F2⟩, F3⟩, _⟩, _⟩, _⟩ := F
  have hr := run_scale c _ hc0 hc1 (by omega) 1 F1
  obtain ⟨n, hn, hcs⟩ := h
  have hn1 := hn.unique hr
  rcases hcs with ⟨h1, _⟩ | ⟨_, _, _, _, h1⟩ | ⟨_, h1, _⟩
  · omega
  · exact h1
  · rw [scale_length] at h1; omega

/-- One more table: it stands as the digits of k + 1, or its run is taken and then does. -/
theorem pick_more (c : Int) (k : Nat) (hk : k < 510) (hc0 : 1 ≤ c) (hc1 : c ≤ 9007199254740992) :
    (scale c (1 :: dg k) = scale c (dg (k + 1))) ∨
    ∃ e : Nat, 2 ≤ e ∧ e ≤ (scale c (1 :: dg k)).length ∧ psum (scale c (1 :: dg k)) e :: (scale c (1 :: dg k)).drop e = scale c (dg (k + 1)) ∧
      ∀ (f en : Int) (fd : Bool), PickR (scale c (1 :: dg k)) f en fd → f = 0 ∧ en = e ∧ fd = true := by
  have F := facts k hk
  simp only [factB, Bool.and_eq_true, Bool.or_eq_true, decide_eq_true_eq, beq_iff_eq] at F
  obtain ⟨⟨⟨⟨_, F3⟩, F4⟩, F5⟩, F6⟩ := F
  rcases F6 with h | ⟨⟨h1, h2⟩, h3⟩
  · exact .inl (by rw [h])
  · right
    have hs : (1 :: dg k).sum ≤ 511 := by simp; omega
    have hr := run_scale c _ hc0 hc1 hs _ h1
    generalize runE (1 :: dg k) = e at *
    have hhi := hr.hi
    refine ⟨e, h2, hhi, ?_, ?_⟩
    · rw [psum_scale c _ hc0 hc1 hs e (by rw [scale_length] at hhi; exact hhi), ← h3]
      simp [scale, List.map_drop]
    · rintro f en fd ⟨n, hn, hcs⟩
      have hn1 := hn.unique hr
      subst hn1
      rcases hcs with ⟨_, rfl, rfl, rfl⟩ | ⟨h, _⟩ | ⟨h, _⟩
      · exact ⟨rfl, rfl, rfl⟩
      · omega
      · omega

theorem more_length (k : Nat) (hk : k < 510) : (dg k).length ≤ 8 ∧ (dg (k + 1)).length ≤ 8 := by
  have F := facts k hk
  simp only [factB, Bool.and_eq_true, decide_eq_true_eq] at F
  obtain ⟨⟨⟨⟨⟨_, F2⟩, _⟩, _⟩, F5⟩, _⟩ := F
  exact ⟨F5, F2⟩
end Go.Proofs.Qxb6605369a
