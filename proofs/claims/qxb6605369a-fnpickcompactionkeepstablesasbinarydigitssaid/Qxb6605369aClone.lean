import Derived.Test.Qxb6605369aPick
namespace Go.Proofs.Qxb6605369a
open Go.RowKit

theorem zzPick_any (ao : Option Addr) (len cap : Nat) (zs : List Int) (w : World) (hr : Rd w ao len zs) (hl : len ≤ 1048576) :
    Calls Try.prog 8 #[.slice ao len cap] w fun e w' => PickE zs e ∧ ∃ n, w' = w.drewN n := by
  go_enter Try.func8, Try.ntmps8
  go_wp2_with fail
  refine (pick_any ao len cap zs _ hr hl).mono ?_
  rintro e w' ⟨⟨f, en, fd, rfl, h⟩, n, rfl⟩
  go_wp2
  go_ret3
  exact ⟨⟨f, en, fd, rfl, h⟩, n, rfl⟩

theorem zzBytesPick_any (ao : Option Addr) (len cap : Nat) (w : World) (hl : len ≤ maxLen) :
    Calls Try.prog 6 #[.slice ao len cap] w fun e w' => e = .returned (.bool (decide (len ≤ 1048576))) ∧ w' = w := by
  unfold maxLen at hl
  by_cases h : len ≤ 1048576
  · rw [decide_eq_true h]
    go_enter Try.func6, Try.ntmps6
    go_wp2
    go_ret
    exact ⟨rfl, rfl⟩
  · rw [decide_eq_false h]
    go_enter Try.func6, Try.ntmps6
    go_wp2
    go_ret
    exact ⟨rfl, rfl⟩

/-- What the walk is told of a slice of integers that came in (the shells' own words). -/
def IsRow (k : IntKind) (w : World) (a : Option Addr) (len cap : Nat) (zs : List Int) : Prop :=
  (a = none ∧ len = 0 ∧ cap = 0 ∧ zs = []) ∨
  ∃ x, a = some x ∧ len ≤ cap ∧ cap ≤ maxLen ∧ zs.length = cap ∧ (∀ i, i < zs.length → w.cell? (x.add i) = some (.int k (zs.getD i 0))) ∧ ∀ n ∈ zs, (Lit.int k n).wf = true

def i64Cells (xs : List Int) : Array Value := (xs.map (Value.int .i64)).toArray

theorem i64Cells_at (xs : List Int) (k : Nat) (h : k < xs.length) : (i64Cells xs)[k]? = some (.int .i64 (xs.getD k 0)) := by
  simp [i64Cells, List.getD, List.getElem?_eq_getElem h]
theorem i64Cells_set (xs : List Int) (k : Nat) (c : Int) : (i64Cells xs).setIfInBounds k (.int .i64 c) = i64Cells (xs.set k c) := by
  simp [i64Cells, List.map_set]
theorem i64Cells_made (n : Nat) : madeCells #[.int .i64 0] n = i64Cells (List.replicate n 0) := by
  apply Array.ext
  · simp [size_madeCells, i64Cells]
  · intro i h1 h2
    simp [madeCells, i64Cells, Nat.mod_one]

theorem Try.info2 : (Try.prog.info? 2).map (fun i => (i.zero, i.size, i.bytes)) = some (some (.int .i64 0), 1, 8) := by kernel_rfl

theorem make_i64 (n : Nat) (hn : n ≤ 1048576) (w : World) :
    (Instr.makeSlice 22 (.int .i64 (n : Int)) (.int .i64 (n : Int))).run Try.prog w = .ok (.slice (some ⟨w.heap.size, 0, none⟩) n n) (w.alloc (.cells (i64Cells (List.replicate n 0)) 2)) := by
  rw [← i64Cells_made]
  exact run_make_row' (P := Try.prog) 22 2 (.int .i64 0) 8 Try.underlying22 Try.info2 rfl .i64 .i64 n (by omega) (by omega) w

theorem rd_alloc (w : World) (xs : List Int) : Rd (w.alloc (.cells (i64Cells xs) 2)) (some ⟨w.heap.size, 0, none⟩) xs.length xs :=
  ⟨rfl, fun k hk => ⟨w.heap.size, rfl, by rw [World.cell?_alloc_at _ _ _ _ rfl, i64Cells_at xs k hk]⟩⟩

theorem rd_nil (w : World) : Rd w none 0 [] := ⟨rfl, fun k h => absurd h (by omega)⟩

theorem clone_nil (w : World) : Calls Try.prog 7 #[.slice none 0 0] w fun e w' => e = .returned (.slice none 0 0) ∧ w' = w := by
  have hnq := fun (w : World) => Lib.run_eql_slice_nil (P := Try.prog) w 22 2 none 0 0 0 0 Try.underlying22
  go_enter Try.func7, Try.ntmps7
  go_wp2
  go_ret
  exact ⟨rfl, rfl⟩

theorem take_set (xs zs : List Int) (k : Nat) (hk : k < xs.length) (hk2 : k < zs.length) (h : xs.take k = zs.take k) : (xs.set k (zs.getD k 0)).take (k + 1) = zs.take (k + 1) := by
  rw [List.take_succ_eq_append_getElem (by simpa using hk), List.take_succ_eq_append_getElem hk2]
  simp [List.take_set_of_le, h, List.getD, List.getElem?_eq_getElem hk2]

set_option maxHeartbeats 1000000 in
set_option maxRecDepth 100000 in
theorem clone_row (x : Addr) (len cap : Nat) (zs : List Int) (w : World) (hlc : len ≤ cap) (hz : zs.length = cap) (hc : ∀ i, i < zs.length → w.cell? (x.add i) = some (.int .i64 (zs.getD i 0))) (hl : len ≤ 1048576) :
    Calls Try.prog 7 #[.slice (some x) len cap] w fun e w' => e = .returned (.slice (some ⟨w.heap.size, 0, none⟩) len len) ∧ w' = w.alloc (.cells (i64Cells (zs.take len)) 2) := by
  have hnq := fun (w : World) => Lib.run_eql_slice_nil (P := Try.prog) w 22 2 (some x) len cap 0 0 Try.underlying22
  have hmk := fun w => make_i64 len hl w
  have HC : Hid (∀ i, i < zs.length → w.cell? (x.add i) = some (.int .i64 (zs.getD i 0))) := hc
  clear hc
  go_enter Try.func7, Try.ntmps7
  go_wp2
  clear hmk
  go_loopw [4] (fun i wr => ∃ (k : Nat) (xs : List Int), k ≤ len ∧ i = .int .i64 k ∧ xs.length = len ∧ Hid (xs.take k = zs.take k) ∧ wr = w.alloc (.cells (i64Cells xs) 2)) (fun i _ => len - (intOf i).toNat)
  case atStart => exact ⟨0, _, Nat.zero_le _, rfl, by simp, by show _ = _; simp, rfl⟩
  case round =>
    obtain ⟨k, xs, hk, rfl, hxl, htk, rfl⟩ := hrel
    by_cases hlt : k < len
    · obtain ⟨b, off, rfl, hcell⟩ := ints_at HC.out (by omega)
      have hlt' : (k : Int) < (len : Int) := by omega
      have h1 := hcell k (by omega)
      have hb : b < w.heap.size := block_lt_of_cell h1
      have h2 : (w.alloc (.cells (i64Cells xs) 2)).cell? ⟨b, off + k, none⟩ = some (.int .i64 (zs.getD k 0)) := by
        rw [World.cell?_alloc_past _ _ _ hb]; exact h1
      have h3 := i64Cells_at xs k (by omega)
      have HT := take_set xs zs k (by omega) (by omega) htk.out
      have HT' : Hid ((xs.set k (zs.getD k 0)).take (k + 1) = zs.take (k + 1)) := HT
      clear HT hcell h1
      generalize zs.getD k 0 = z at *
      go_wp2
      go_roundw
      case rel => exact ⟨k + 1, xs.set k z, by omega, by go_num, by simpa using hxl, HT', by rw [i64Cells_set]⟩
      case measure => simp [intOf]; omega
    · go_wp2
      go_ret
      refine ⟨rfl, ?_⟩
      have e1 : k = len := by omega
      have e2 := htk.out
      rw [e1, List.take_of_length_le (by omega)] at e2
      rw [e2]
end Go.Proofs.Qxb6605369a
