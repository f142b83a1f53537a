/-
  PLAIN LISTS: the binary digits of k as weights, least first ('dg'); the run of newest tables taken together ('RunN'); the facts that hold at every k up to 510, by reckoning.
-/
namespace Go.Proofs.Qxb6605369a

def dgB (k : Nat) : Nat → List Nat
  | 0 => []
  | b + 1 => if k / 2 ^ b % 2 = 1 then dgB k b ++ [2 ^ b] else dgB k b

def dg (k : Nat) : List Nat := dgB k 10

/-- e tables are taken together: each but the first is no larger than all newer ones together, and the next is larger. -/
def runB (L : List Nat) (e : Nat) : Bool :=
  decide (e ≤ L.length) && (List.range e).all (fun j => j == 0 || decide (L.getD j 0 ≤ (L.take j).sum)) && (decide (L.length ≤ e) || (decide (0 < e) && decide ((L.take e).sum < L.getD e 0)))

/-- How many. -/
def runE (L : List Nat) : Nat := ((List.range (L.length + 1)).find? fun e => runB L e).getD 0

/-- All that is wanted of the k-th write. -/
def factB (k : Nat) : Bool :=
  runB (dg (k + 1)) 1 && decide ((dg (k + 1)).length ≤ 8) && decide ((dg (k + 1)).sum = k + 1) && decide ((dg k).sum = k) && decide ((dg k).length ≤ 8) &&
  (((1 :: dg k) == dg (k + 1)) ||
   (runB (1 :: dg k) (runE (1 :: dg k)) && decide (2 ≤ runE (1 :: dg k)) && ((((1 :: dg k).take (runE (1 :: dg k))).sum :: (1 :: dg k).drop (runE (1 :: dg k))) == dg (k + 1))))

theorem facts_all : (List.range 510).all factB = true := by decide +kernel

theorem facts (k : Nat) (h : k < 510) : factB k = true := by
  have := List.all_eq_true.1 facts_all k (List.mem_range.2 h)
  exact this
end Go.Proofs.Qxb6605369a
