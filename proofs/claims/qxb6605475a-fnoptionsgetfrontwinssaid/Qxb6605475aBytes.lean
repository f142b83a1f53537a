import Derived.Test.Qxb6605475aRows
import Derived.WalkKit
import Derived.ProofKit
import Derived.WalkSpells
import Derived.WalkLawsBesides
import Derived.Deep.QuietTactic
import Derived.BigQuiet
import Derived.Deep.OwnRows
import Derived.OpenShut
namespace Go.Proofs.Qxb6605475a
open Go.RowKit

/-- A slice of bytes that can be read, its block not below lo. -/
def BsAt (lo : Nat) (w : World) (A : Option Addr) (n : Nat) : Prop :=
  ∀ k, k < n → ∃ b off z, A = some ⟨b, off, none⟩ ∧ lo ≤ b ∧ w.cell? ⟨b, off + k, none⟩ = some (.int .u8 z)

theorem BsAt.lower {lo lo' : Nat} {w : World} {A : Option Addr} {n : Nat} (h : BsAt lo w A n) (hl : lo' ≤ lo) : BsAt lo' w A n := fun k hk => by
  obtain ⟨b, off, z, h1, h2, h3⟩ := h k hk
  exact ⟨b, off, z, h1, by omega, h3⟩
theorem BsAt.nil (lo : Nat) (w : World) (A : Option Addr) : BsAt lo w A 0 := fun k h => absurd h (by omega)
theorem BsAt.drewN {lo : Nat} {w : World} {A : Option Addr} {n : Nat} (h : BsAt lo w A n) (q : Nat) : BsAt lo (w.drewN q) A n := fun k hk => by
  obtain ⟨b, off, z, h1, h2, h3⟩ := h k hk
  exact ⟨b, off, z, h1, h2, by simpa using h3⟩
theorem BsAt.below {lo : Nat} {w w' : World} {A : Option Addr} {n : Nat} (h : BsAt lo w A n) (hb : Below w.heap.size w w') : BsAt lo w' A n := fun k hk => by
  obtain ⟨b, off, z, h1, h2, h3⟩ := h k hk
  exact ⟨b, off, z, h1, h2, by rw [hb.cell (p := ⟨b, off + k, none⟩) (block_lt_of_cell h3)]; exact h3⟩

set_option maxHeartbeats 1000000 in
theorem same_any (A : Option Addr) (n cap : Nat) (w : World) (h : BsAt 0 w A n) (hn : n ≤ 1048576) :
    Calls Try.prog 13 #[.slice A n cap, .slice A n cap] w fun e w' => e = .returned (.bool true) ∧ ∃ q, w' = w.drewN q := by
  have hnq := fun (w : World) => Lib.run_eql_slice_nil (P := Try.prog) w 33 5 A n cap 0 0 Try.underlying33
  go_enter Try.func13, Try.ntmps13
  go_wp2
  go_loopw [5] (fun i wr => ∃ k q : Nat, k ≤ n ∧ i = .int .i64 k ∧ wr = w.drewN q) (fun i _ => n - (intOf i).toNat)
  case atStart => exact ⟨0, 0, Nat.zero_le _, rfl, rfl⟩
  case round =>
    obtain ⟨k, q, hk, rfl, rfl⟩ := hrel
    by_cases hlt : k < n
    · obtain ⟨b, off, z, rfl, _, hc⟩ := h k hlt
      have hlt' : (k : Int) < (n : Int) := by omega
      go_wp2
      go_quiet (fail)
      go_wp2
      go_roundw
      case rel => exact ⟨k + 1, _, by omega, by go_num, rfl⟩
      case measure => simp [intOf]; omega
    · go_wp2
      go_ret
      exact ⟨rfl, q, rfl⟩

def u8Cells (xs : List Int) : Array Value := (xs.map (Value.int .u8)).toArray
theorem u8Cells_at (xs : List Int) (k : Nat) (h : k < xs.length) : (u8Cells xs)[k]? = some (.int .u8 (xs.getD k 0)) := by
  simp [u8Cells, List.getD, List.getElem?_eq_getElem h]
theorem u8Cells_set (xs : List Int) (k : Nat) (c : Int) : (u8Cells xs).setIfInBounds k (.int .u8 c) = u8Cells (xs.set k c) := by
  simp [u8Cells, List.map_set]
theorem u8Cells_made (n : Nat) : madeCells #[.int .u8 0] n = u8Cells (List.replicate n 0) := by
  apply Array.ext
  · simp [size_madeCells, u8Cells]
  · intro i h1 h2
    simp [madeCells, u8Cells, Nat.mod_one]

theorem Try.info5 : (Try.prog.info? 5).map (fun i => (i.zero, i.size, i.bytes)) = some (some (.int .u8 0), 1, 1) := by kernel_rfl

theorem make_u8 (n : Nat) (hn : n ≤ 1048576) (w : World) :
    (Instr.makeSlice 33 (.int .i64 (n : Int)) (.int .i64 (n : Int))).run Try.prog w = .ok (.slice (some ⟨w.heap.size, 0, none⟩) n n) (w.alloc (.cells (u8Cells (List.replicate n 0)) 5)) := by
  rw [← u8Cells_made]
  exact run_make_row' (P := Try.prog) 33 5 (.int .u8 0) 1 Try.underlying33 Try.info5 rfl .i64 .i64 n (by omega) (by omega) w

/-- What zzCloneBytes answers: a slice that can be read, in new memory. -/
def CloneB (n : Nat) (e : Ending) (w w' : World) : Prop :=
  ∃ A cap, e = .returned (.slice A n cap) ∧ BsAt w.heap.size w' A n ∧ Below w.heap.size w w'

set_option maxHeartbeats 1000000 in
set_option maxRecDepth 100000 in
theorem cloneB_any (A : Option Addr) (n cap : Nat) (w : World) (h : BsAt 0 w A n) (hn : n ≤ 1048576) (hnil : A = none → n = 0) :
    Calls Try.prog 15 #[.slice A n cap] w fun e w' => CloneB n e w w' := by
  have hnq := fun (w : World) => Lib.run_eql_slice_nil (P := Try.prog) w 33 5 A n cap 0 0 Try.underlying33
  have hmk := fun w => make_u8 n hn w
  cases A with
  | none =>
    have h0 := hnil rfl
    subst h0
    clear hmk hnil
    go_enter Try.func15, Try.ntmps15
    go_wp2
    go_ret
    exact ⟨none, 0, rfl, BsAt.nil _ _ _, Below.refl _ _⟩
  | some x =>
    clear hnil
    go_enter Try.func15, Try.ntmps15
    go_wp2
    clear hmk
    go_loopw [4] (fun i wr => ∃ (k : Nat) (xs : List Int), k ≤ n ∧ i = .int .i64 k ∧ xs.length = n ∧ wr = w.alloc (.cells (u8Cells xs) 5)) (fun i _ => n - (intOf i).toNat)
    case atStart => exact ⟨0, _, Nat.zero_le _, rfl, by simp, rfl⟩
    case round =>
      obtain ⟨k, xs, hk, rfl, hxl, rfl⟩ := hrel
      by_cases hlt : k < n
      · obtain ⟨b, off, z, hx, _, h1⟩ := h k hlt
        cases hx
        have hlt' : (k : Int) < (n : Int) := by omega
        have hb : b < w.heap.size := block_lt_of_cell h1
        have h2 : (w.alloc (.cells (u8Cells xs) 5)).cell? ⟨b, off + k, none⟩ = some (.int .u8 z) := by
          rw [World.cell?_alloc_past _ _ _ hb]; exact h1
        have h3 := u8Cells_at xs k (by omega)
        clear h1
        go_wp2
        go_roundw
        case rel => exact ⟨k + 1, xs.set k z, by omega, by go_num, by simpa using hxl, by rw [u8Cells_set]⟩
        case measure => simp [intOf]; omega
      · go_wp2
        go_ret
        refine ⟨some ⟨w.heap.size, 0, none⟩, n, rfl, fun j hj => ⟨w.heap.size, 0, xs.getD j 0, rfl, Nat.le_refl _, ?_⟩, (Below.refl _ _).alloc (Nat.le_refl _) _⟩
        rw [Nat.zero_add, World.cell?_alloc_at _ _ _ _ rfl, u8Cells_at xs j (by omega)]
end Go.Proofs.Qxb6605475a
