import Derived.Test.Qxb6605362aSpace
namespace Go.Proofs.Qxb6605362a
open Go.RowKit

/-- What the walk is told of a slice of integers that came in (the shells' own words). -/
def IsRow (k : IntKind) (w : World) (a : Option Addr) (len cap : Nat) (zs : List Int) : Prop :=
  (a = none ∧ len = 0 ∧ cap = 0 ∧ zs = []) ∨
  ∃ x, a = some x ∧ len ≤ cap ∧ cap ≤ maxLen ∧ zs.length = cap ∧ (∀ i, i < zs.length → w.cell? (x.add i) = some (.int k (zs.getD i 0))) ∧ ∀ n ∈ zs, (Lit.int k n).wf = true

def u8Cells (xs : List Int) : Array Value := (xs.map (Value.int .u8)).toArray

theorem Try.info5 : (Try.prog.info? 5).map (fun i => (i.zero, i.size, i.bytes)) = some (some (.int .u8 0), 1, 1) := by kernel_rfl
theorem Try.size5 : (Try.prog.info? 5).map (·.size) = some 1 := by kernel_rfl

theorem make_u8 (n : Nat) (hn : n ≤ 1048576) (w : World) :
    (Instr.makeSlice 29 (.int .i64 (n : Int)) (.int .i64 (n : Int))).run Try.prog w = .ok (.slice (some ⟨w.heap.size, 0, none⟩) n n) (w.alloc (.cells (madeCells #[.int .u8 0] n) 5)) :=
  run_make_row' (P := Try.prog) 29 5 (.int .u8 0) 1 Try.underlying29 Try.info5 rfl .i64 .i64 n (by omega) (by omega) w

theorem copy_u8 (w : World) (ty : TypeId) (x : Addr) (len cap : Nat) (zs : List Int) (hlc : len ≤ cap) (hz : zs.length = cap)
    (hc : ∀ i, i < zs.length → w.cell? (x.add i) = some (.int .u8 (zs.getD i 0))) :
    (Builtin.copy_ #[29, 29] ty #[.slice (some ⟨w.heap.size, 0, none⟩) len len, .slice (some x) len cap]).run Try.prog (w.alloc (.cells (madeCells #[.int .u8 0] len) 5)) =
      .ok (.int .i64 len) (w.alloc (.cells (u8Cells (zs.take len)) 5)) := by
  have hl : ((zs.take len).map (Value.int .u8)).length = len := by simp; omega
  have h := run_copy_row (P := Try.prog) (w.alloc (.cells (madeCells #[.int .u8 0] len) 5)) 29 29 ty 5 w.heap.size 0 len len x len cap (madeCells #[.int .u8 0] len) 5 ((zs.take len).map (Value.int .u8))
    Try.underlying29 Try.size5 (heap_alloc_new _ _) (by rw [hl]; simp) (fun j v hj => by
      have hj' : j < len := by
        have := (List.getElem?_eq_some_iff.1 hj).1
        omega
      have h1 := hc j (by omega)
      have h2 : v = .int .u8 (zs.getD j 0) := by
        simp [List.getElem?_map, hj'] at hj
        obtain ⟨q, hq, rfl⟩ := hj
        simp [List.getD, hq]
      rw [h2, ← h1]
      have hlt : (x.add j).block < w.heap.size := block_lt_of_cell h1
      exact World.cell?_alloc_lt w _ _ hlt) (by rw [hl]; simp [madeCells]) (by intro v hv; obtain ⟨q, _, rfl⟩ := List.mem_map.1 hv; rfl)
  rw [h, hl]
  have e : (madeCells #[.int .u8 0] len).toList.drop len = [] := List.drop_of_length_le (by simp [size_madeCells])
  have e2 : (w.alloc (.cells (madeCells #[.int .u8 0] len) 5)).setRow w.heap.size (u8Cells (zs.take len)) = w.alloc (.cells (u8Cells (zs.take len)) 5) := by
    unfold World.setRow World.alloc
    congr 1
    apply Array.ext_getElem?
    intro k
    simp only [Array.getElem?_modify, Array.getElem?_push]
    by_cases hk : k = w.heap.size
    · subst hk; simp
    · simp [hk, Ne.symm hk]
  rw [← e2]
  simp [e, u8Cells, goInt]

theorem rd_copy (w : World) (len cap : Nat) (zs : List Int) (hlc : len ≤ cap) (hz : zs.length = cap) :
    Rd (w.alloc (.cells (u8Cells (zs.take len)) 5)) (some ⟨w.heap.size, 0, none⟩) len (zs.take len) := by
  have hl : (zs.take len).length = len := by simp; omega
  refine ⟨hl, fun k hk => ⟨w.heap.size, rfl, ?_⟩⟩
  rw [World.cell?_alloc_at _ _ _ _ rfl]
  have hk' : k < (zs.take len).length := by omega
  simp only [u8Cells, List.getElem?_toArray, List.getElem?_map, List.getD, List.getElem?_eq_getElem hk', Option.map_some, Option.getD_some]

theorem rd_nil (w : World) : Rd w none 0 [] := ⟨rfl, fun k h => absurd h (by omega)⟩
end Go.Proofs.Qxb6605362a
