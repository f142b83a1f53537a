import GoSem.Op.String
/-
  PLAIN LISTS OF BYTES: the first key behind all those that start with p ('nx': empty where there is none), and the law on ranges.
-/
namespace Go.Proofs.Qxb6605369a

def nx : List UInt8 → List UInt8
  | [] => []
  | a :: p => if nx p = [] then (if a = 255 then [] else [a + 1]) else a :: nx p

theorem nx_ff (l : List UInt8) : nx (l ++ [255]) = nx l := by
  induction l with
  | nil => simp [nx]
  | cons a l ih => simp [nx, ih]

theorem nx_snoc (l : List UInt8) (c : UInt8) (h : c ≠ 255) : nx (l ++ [c]) = l ++ [c + 1] := by
  induction l with
  | nil => simp [nx, h]
  | cons a l ih => simp [nx, ih]

def leq (p k : List UInt8) : Bool := Op.bytesLess p k || p == k

theorem range_law (p : List UInt8) : ∀ k : List UInt8, (leq p k && (nx p == [] || Op.bytesLess k (nx p))) = (decide (p.length ≤ k.length) && (k.take p.length == p)) := by
  induction p with
  | nil => intro k; cases k <;> simp [leq, nx, Op.bytesLess]
  | cons a p ih =>
    intro k
    cases k with
    | nil => simp [leq, Op.bytesLess]
    | cons b k =>
      have h := ih k
      by_cases hab : a = b
      · subst hab
        have hle : leq (a :: p) (a :: k) = leq p k := by simp [leq, Op.bytesLess]
        rw [hle]
        have hr : (decide ((a :: p).length ≤ (a :: k).length) && ((a :: k).take (a :: p).length == a :: p)) = (decide (p.length ≤ k.length) && (k.take p.length == p)) := by
          simp
        rw [hr, ← h]
        by_cases hn : nx p = []
        · by_cases h255 : a = 255
          · simp [nx, hn, h255]
          · have hlt : a < a + 1 := by
              rw [UInt8.lt_iff_toNat_lt]
              have h1 : a.toNat ≠ 255 := fun e => h255 (UInt8.toNat_inj.1 (by simpa using e))
              have h2 := a.toNat_lt
              rw [UInt8.toNat_add]
              simp
              omega
            simp [nx, hn, h255, Op.bytesLess, hlt]
        · have hn' : (nx p).isEmpty = false := by simpa using hn
          simp [nx, hn, Op.bytesLess, hn']
      · have hr : (decide ((a :: p).length ≤ (b :: k).length) && ((b :: k).take (a :: p).length == a :: p)) = false := by
          simp [Ne.symm hab]
        rw [hr]
        by_cases hlt : a < b
        · have hnb : ¬ b < a := by
            rw [UInt8.lt_iff_toNat_lt] at *; omega
          by_cases hn : nx p = []
          · by_cases h255 : a = 255
            · exfalso
              subst h255
              rw [UInt8.lt_iff_toNat_lt] at hlt
              have := b.toNat_lt
              simp at hlt
              omega
            · have hb1 : ¬ b < a + 1 := by
                rw [UInt8.lt_iff_toNat_lt] at *
                have h2 := b.toNat_lt
                rw [UInt8.toNat_add]
                simp
                omega
              simp [nx, hn, h255, Op.bytesLess, hb1]
          · simp [nx, hn, Op.bytesLess, hnb, Ne.symm hab]
        · simp [leq, Op.bytesLess, hlt, hab]
end Go.Proofs.Qxb6605369a
