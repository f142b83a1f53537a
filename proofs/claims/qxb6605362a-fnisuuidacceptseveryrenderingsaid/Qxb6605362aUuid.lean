import Derived.Test.Qxb6605362aRows
import Derived.WalkKit
import Derived.ProofKit
import Derived.WalkSpells
import Derived.WalkLawsBesides
import Derived.Lib.OthersKept
import Derived.Lib.SlBytesRow
import Derived.OpenShut
namespace Go.Proofs.Qxb6605362a
open Go.RowKit

/-- A byte or rune that is a hexadecimal digit. -/
def hexB (r : Int) : Bool := decide ((48 ≤ r ∧ r ≤ 57) ∨ (97 ≤ r ∧ r ≤ 102) ∨ (65 ≤ r ∧ r ≤ 70))

theorem isHexDigit_yes (r : Int) (w : World) (h : (48 ≤ r ∧ r ≤ 57) ∨ (97 ≤ r ∧ r ≤ 102) ∨ (65 ≤ r ∧ r ≤ 70)) :
    Calls Try.prog 18 #[.int .i32 r] w fun e w' => e = .returned (.bool true) ∧ w' = w := by
  rcases h with ⟨h1, h2⟩ | ⟨h1, h2⟩ | ⟨h1, h2⟩
  all_goals
    go_enter Try.func18, Try.ntmps18
    go_wp2
    go_ret
    exact ⟨rfl, rfl⟩

theorem hexDigit_any (n : Int) (u : Bool) (w : World) (h0 : 0 ≤ n) (h1 : n ≤ 15) :
    Calls Try.prog 10 #[.int .u64 n, .bool u] w fun e w' => (∃ c : Int, e = .returned (.int .u8 c) ∧ ((48 ≤ c ∧ c ≤ 57) ∨ (97 ≤ c ∧ c ≤ 102) ∨ (65 ≤ c ∧ c ≤ 70))) ∧ w' = w := by
  by_cases hn : n < 10
  · go_enter Try.func10, Try.ntmps10
    go_wp2
    go_ret
    exact ⟨⟨_, rfl, by omega⟩, rfl⟩
  · cases u
    · go_enter Try.func10, Try.ntmps10
      go_wp2
      go_ret
      exact ⟨⟨_, rfl, by omega⟩, rfl⟩
    · go_enter Try.func10, Try.ntmps10
      go_wp2
      go_ret
      exact ⟨⟨_, rfl, by omega⟩, rfl⟩

theorem isUUID_no (s : ByteArray) (w : World) (hs : s.size ≠ 36) (_hm : s.size ≤ 100) :
    Calls Try.prog 8 #[.string s] w fun e w' => e = .returned (.bool false) ∧ w' = w := by
  go_enter Try.func8, Try.ntmps8
  go_wp2
  go_ret
  exact ⟨rfl, rfl⟩

/-- A byte that may stand at place i of a UUID. -/
def okAt (i : Nat) (c : Nat) : Prop :=
  if i = 8 ∨ i = 13 ∨ i = 18 ∨ i = 23 then c = 45 else (48 ≤ c ∧ c ≤ 57) ∨ (97 ≤ c ∧ c ≤ 102) ∨ (65 ≤ c ∧ c ≤ 70)

set_option maxHeartbeats 1000000 in
theorem isUUID_yes (s : ByteArray) (w : World) (hs : s.size = 36) (hok : ∀ i (h : i < s.size), okAt i (s[i]'h).toNat) :
    Calls Try.prog 8 #[.string s] w fun e w' => e = .returned (.bool true) ∧ Below w.heap.size w w' := by
  go_enter Try.func8, Try.ntmps8
  go_wp2
  go_loopw [3, 4] (fun _ _ wr => ∃ pos : Nat, pos ≤ 36 ∧ wr = w.iter s pos) (fun _ _ wr => 36 - wr.iterPos w.heap.size)
  case atStart => exact ⟨0, Nat.zero_le _, rfl⟩
  case round =>
    obtain ⟨pos, hpos, rfl⟩ := hrel
    have hmu : ∀ p, (w.iter s p).iterPos w.heap.size = p := fun p => by simp [World.iterPos, World.iter_heap]
    by_cases hp : pos < s.size
    · have hk := hok pos hp
      have hc : (s[pos]'hp).toNat < 128 := by unfold okAt at hk; split at hk <;> omega
      have hnx := fun ty => run_next_ascii (P := Try.prog) w s pos ty hp hc
      generalize (s[pos]'hp).toNat = c at *
      clear hok
      unfold okAt at hk
      split at hk
      · rename_i h4
        rcases h4 with rfl | rfl | rfl | rfl
        all_goals
          subst hk
          go_wp2
          go_roundw
          case rel => exact ⟨_, by omega, rfl⟩
          case measure => rw [hmu, hmu]; omega
      · rename_i h4
        have h8 : ¬ pos = 8 := by omega
        have h13 : ¬ pos = 13 := by omega
        have h18 : ¬ pos = 18 := by omega
        have h23 : ¬ pos = 23 := by omega
        clear h4
        go_wp2_with (go_at_call 18; refine (isHexDigit_yes _ _ (by omega)).mono ?_; rintro e w' ⟨rfl, rfl⟩)
        go_roundw
        case rel => exact ⟨_, by omega, rfl⟩
        case measure => rw [hmu, hmu]; omega
    · have hnx := fun ty => run_next_end (P := Try.prog) w s pos ty hp
      go_wp2
      go_ret
      exact ⟨rfl, (Below.refl _ _).alloc (Nat.le_refl _) _⟩

/-- How far the digits have come when k bytes are written. -/
def dAt (k d : Nat) : Prop :=
  (k ≤ 8 ∧ d = k) ∨ (8 < k ∧ k ≤ 13 ∧ d + 1 = k) ∨ (13 < k ∧ k ≤ 18 ∧ d + 2 = k) ∨ (18 < k ∧ k ≤ 23 ∧ d + 3 = k) ∨ (23 < k ∧ d + 4 = k)

def byteCs (xs : List Int) : Array Value := (xs.map (Value.int .u8)).toArray

theorem byteCs_size (xs : List Int) : (byteCs xs).size = xs.length := by simp [byteCs]

structure Row36 (k : Nat) (xs : List Int) : Prop where
  len : xs.length = 36
  ok : ∀ i, i < k → okAt i (xs.getD i 0).toNat
  range : ∀ x ∈ xs, 0 ≤ x ∧ x ≤ 255

structure Row32 (ys : List Int) : Prop where
  len : ys.length = 32
  range : ∀ x ∈ ys, 0 ≤ x ∧ x ≤ 255

theorem byteCs_at (xs : List Int) (k : Nat) (h : k < xs.length) : (byteCs xs)[k]? = some (.int .u8 (xs.getD k 0)) := by
  simp [byteCs, List.getD, List.getElem?_eq_getElem h]

theorem byteCs_set (xs : List Int) (k : Nat) (c : Int) : (byteCs xs).setIfInBounds k (.int .u8 c) = byteCs (xs.set k c) := by
  simp [byteCs, List.map_set]

theorem Row36.put {k : Nat} {xs : List Int} (h : Row36 k xs) (hk : k < 36) (c : Int) (h0 : 0 ≤ c) (h1 : c ≤ 255) (hc : okAt k c.toNat) : Row36 (k + 1) (xs.set k c) := by
  have hl := h.len
  refine ⟨by simp [hl], fun i hi => ?_, fun x hx => ?_⟩
  · by_cases e : i = k
    · subst e
      simpa [List.getD, List.getElem?_set, hl, hk] using hc
    · have := h.ok i (by omega)
      simpa [List.getD, List.getElem?_set, Ne.symm e] using this
  · rcases List.mem_or_eq_of_mem_set hx with h2 | rfl
    · exact h.range x h2
    · exact ⟨h0, h1⟩

theorem Row32.put {xs : List Int} (h : Row32 xs) (k : Nat) (c : Int) (h0 : 0 ≤ c) (h1 : c ≤ 255) : Row32 (xs.set k c) := by
  refine ⟨by simp [h.len], fun x hx => ?_⟩
  rcases List.mem_or_eq_of_mem_set hx with h2 | rfl
  · exact h.range x h2
  · exact ⟨h0, h1⟩

theorem and15_bd (x : Int) (h0 : 0 ≤ x) (h1 : x < 18446744073709551616) : 0 ≤ bits .and .u64 x 15 ∧ bits .and .u64 x 15 ≤ 15 := by
  rw [u64_and x 15 h0 h1 (by omega) (by omega)]
  have h : x.toNat &&& (15 : Int).toNat ≤ (15 : Int).toNat := Nat.and_le_right
  generalize x.toNat &&& (15 : Int).toNat = y at *
  simp at h
  omega

theorem nib_bd (x : Int) (n : Nat) (hw : (Lit.int .u64 x).wf = true) : 0 ≤ bits .and .u64 (x / 2 ^ n) 15 ∧ bits .and .u64 (x / 2 ^ n) 15 ≤ 15 := by
  have hb : 0 ≤ x ∧ x < 18446744073709551616 := by
    have := bounds_u64 hw
    omega
  have hp : (0 : Int) < 2 ^ n := Int.pow_pos (by omega)
  have h1 : 0 ≤ x / 2 ^ n := Int.ediv_nonneg hb.1 (Int.le_of_lt hp)
  have h2 : x / 2 ^ n ≤ x := Int.ediv_le_self _ hb.1
  exact and15_bd _ h1 (by omega)

/-- The string of a row of byte numbers. -/
def strOf (xs : List Int) : ByteArray := ⟨(xs.map fun n => UInt8.ofNat n.toNat).toArray⟩

theorem strOf_size (xs : List Int) : (strOf xs).size = xs.length := by simp [strOf, ByteArray.size]

theorem strOf_get (xs : List Int) (i : Nat) (h : i < (strOf xs).size) (hr : ∀ x ∈ xs, 0 ≤ x ∧ x ≤ 255) : (((strOf xs)[i]'h).toNat : Int) = xs.getD i 0 := by
  have hi : i < xs.length := by rw [← strOf_size]; exact h
  have e : (strOf xs)[i]'h = UInt8.ofNat (xs[i]'hi).toNat := by
    show ((xs.map fun n => UInt8.ofNat n.toNat).toArray)[i]'(by simpa using hi) = _
    simp
  rw [e]
  have := hr (xs[i]'hi) (List.getElem_mem hi)
  simp only [List.getD, List.getElem?_eq_getElem hi, Option.getD_some]
  have h2 : (UInt8.ofNat (xs[i]'hi).toNat).toNat = (xs[i]'hi).toNat := by
    simp; omega
  rw [h2]; omega

theorem conv_row (W : World) (b n : Nat) (xs : List Int) (hr : ∀ x ∈ xs, 0 ≤ x ∧ x ≤ 255) (hn : xs.length = n)
    (hc : ∀ i, i < n → W.cell? ⟨b, i, none⟩ = (byteCs xs)[i]?) :
    (convert 29 9 (.slice (some ⟨b, 0, none⟩) n n)).run Try.prog W = .ok (.string (strOf xs)) W := by
  have h := Lib.run_convert_whole (P := Try.prog) W 29 5 9 Try.underlying29 Try.underlying5 Try.underlying9 b 0 (strOf xs) (fun i hi => by
    have hi' : i < n := by rw [strOf_size] at hi; omega
    rw [Nat.zero_add, hc i hi', byteCs_at xs i (by omega), strOf_get xs i hi hr]) n
  rw [strOf_size, hn] at h
  exact h

set_option maxHeartbeats 1000000 in
theorem uuidMain (a0 : Int) (a1 : Int) (a2 : Int) (w0 : (Lit.int .u64 a0).wf = true) (w1 : (Lit.int .u64 a1).wf = true) (_w2 : (Lit.int .u32 a2).wf = true) (w : World) :
    Calls Try.prog 4 #[.int .u64 a0, .int .u64 a1, .int .u32 a2] w fun e w' => e = .returned (.bool true) ∧ Below w.heap.size w w' := by
  go_enter Try.func4, Try.ntmps4
  go_wp2
  go_loopw [9, 10] (fun d k wr => ∃ kn dn : Nat, ∃ xs ys : List Int, kn ≤ 36 ∧ Hid (dAt kn dn) ∧ d = .int .i64 dn ∧ k = .int .i64 kn ∧ wr = (w.alloc (.cells (byteCs xs) 25)).alloc (.cells (byteCs ys) 26) ∧ Row36 kn xs ∧ Row32 ys)
    (fun _ k _ => 36 - (intOf k).toNat)
  case atStart =>
    refine ⟨0, 0, List.replicate 36 0, List.replicate 32 0, by omega, ?_, rfl, rfl, rfl, ?_, ?_⟩
    · show dAt 0 0
      unfold dAt; omega
    · exact ⟨by simp, fun i h => absurd h (by omega), fun x h => by simp at h; omega⟩
    · exact ⟨by simp, fun x h => by simp at h; omega⟩
  case round =>
    obtain ⟨kn, dn, xs, ys, hkn, hd, rfl, rfl, rfl, hX, hY⟩ := hrel
    have hxl := hX.len
    have hyl := hY.len
    by_cases hk : kn < 36
    · have hxk := byteCs_at xs kn (by omega)
      by_cases h4 : kn = 8 ∨ kn = 13 ∨ kn = 18 ∨ kn = 23
      · have hput := hX.put hk 45 (by omega) (by omega) (by unfold okAt; rw [if_pos h4]; rfl)
        have hd' : Hid (dAt (kn + 1) dn) := by have := hd.out; show dAt _ _; unfold dAt at *; omega
        rcases h4 with rfl | rfl | rfl | rfl
        all_goals
          go_wp2
          go_roundw
          case rel => exact ⟨_, dn, _, ys, by omega, hd', rfl, rfl, by rw [byteCs_set], hput, hY⟩
          case measure => simp [intOf]
      · have h8 : ((kn : Int) == 8) = false := beq_eq_false_iff_ne.2 (by omega)
        have h13 : ((kn : Int) == 13) = false := beq_eq_false_iff_ne.2 (by omega)
        have h18 : ((kn : Int) == 18) = false := beq_eq_false_iff_ne.2 (by omega)
        have h23 : ((kn : Int) == 23) = false := beq_eq_false_iff_ne.2 (by omega)
        have hdn : dn < 32 := by have := hd.out; unfold dAt at this; omega
        have hyk := byteCs_at ys dn (by omega)
        have H4 : Hid (¬ (kn = 8 ∨ kn = 13 ∨ kn = 18 ∨ kn = 23)) := h4
        clear h4
        have hput := fun c h0 h1 hc => hX.put hk c h0 h1 hc
        have hputy := fun c h0 h1 => hY.put dn c h0 h1
        have HP : Hid (∀ c, 0 ≤ c → c ≤ 255 → okAt kn c.toNat → Row36 (kn + 1) (xs.set kn c)) := hput
        have HQ : Hid (∀ c, 0 ≤ c → c ≤ 255 → Row32 (ys.set dn c)) := hputy
        clear hput hputy
        by_cases hd16 : dn < 16
        · go_wp2_with fail
          refine (hexDigit_any _ _ _ (nib_bd _ _ w0).1 (nib_bd _ _ w0).2).mono ?_
          rintro e w' ⟨⟨c, rfl, hc⟩, rfl⟩
          go_wp2
          go_roundw
          case rel =>
            refine ⟨kn + 1, dn + 1, xs.set kn c, ys.set dn c, by omega, ?_, by go_num, by go_num, by rw [byteCs_set, byteCs_set], HP.out c (by omega) (by omega) ?_, HQ.out c (by omega) (by omega)⟩
            · have := hd.out; have := H4.out; show dAt _ _; unfold dAt at *; omega
            · unfold okAt; rw [if_neg H4.out]; omega
          case measure => simp [intOf]; omega
        · go_wp2_with fail
          refine (hexDigit_any _ _ _ (nib_bd _ _ w1).1 (nib_bd _ _ w1).2).mono ?_
          rintro e w' ⟨⟨c, rfl, hc⟩, rfl⟩
          go_wp2
          go_roundw
          case rel =>
            refine ⟨kn + 1, dn + 1, xs.set kn c, ys.set dn c, by omega, ?_, by go_num, by go_num, by rw [byteCs_set, byteCs_set], HP.out c (by omega) (by omega) ?_, HQ.out c (by omega) (by omega)⟩
            · have := hd.out; have := H4.out; show dAt _ _; unfold dAt at *; omega
            · unfold okAt; rw [if_neg H4.out]; omega
          case measure => simp [intOf]; omega
    · have hkn' : kn = 36 := by omega
      subst hkn'
      have hcv := conv_row ((w.alloc (.cells (byteCs xs) 25)).alloc (.cells (byteCs ys) 26)) w.heap.size 36 xs hX.range hX.len (fun i hi => by
        rw [World.cell?_alloc_past _ _ _ (by simp), World.cell?_alloc_at _ _ _ _ rfl])
      have hcw : ∀ w1, Below ((w.alloc (.cells (byteCs xs) 25)).alloc (.cells (byteCs ys) 26)).heap.size ((w.alloc (.cells (byteCs xs) 25)).alloc (.cells (byteCs ys) 26)) w1 →
          (convert 29 9 (.slice (some ⟨w.heap.size + 1, 0, none⟩) 32 32)).run Try.prog w1 = .ok (.string (strOf ys)) w1 := fun w1 hb =>
        conv_row w1 (w.heap.size + 1) 32 ys hY.range hY.len (fun i hi => by
          rw [hb.cell (by simp), World.cell?_alloc_at _ _ _ _ (by simp)])
      have HW : Hid (∀ w1, Below ((w.alloc (.cells (byteCs xs) 25)).alloc (.cells (byteCs ys) 26)).heap.size ((w.alloc (.cells (byteCs xs) 25)).alloc (.cells (byteCs ys) 26)) w1 →
          (convert 29 9 (.slice (some ⟨w.heap.size + 1, 0, none⟩) 32 32)).run Try.prog w1 = .ok (.string (strOf ys)) w1) := hcw
      have hsx : (strOf xs).size = 36 := by rw [strOf_size]; exact hX.len
      have hsy : (strOf ys).size = 32 := by rw [strOf_size]; exact hY.len
      have hok : Hid (∀ i (h : i < (strOf xs).size), okAt i ((strOf xs)[i]'h).toNat) := by
        intro i h
        have h1 := hX.ok i (by omega)
        have h2 := strOf_get xs i h hX.range
        rw [← h2] at h1
        simpa using h1
      clear hcw hX hY hxl hyl hd
      generalize strOf xs = s at *
      generalize strOf ys = s2 at *
      go_wp2_with fail
      refine (isUUID_yes s _ hsx hok.out).mono ?_
      rintro e w1 ⟨rfl, hb⟩
      have hc2 := HW.out w1 hb
      go_wp2_with fail
      refine (isUUID_no _ _ (by simp [ByteArray.size_extract, hsx]) (by simp [ByteArray.size_extract, hsx])).mono ?_
      rintro e w2 ⟨rfl, rfl⟩
      go_wp2_with fail
      refine (isUUID_no _ _ (by simp [ByteArray.size_append, hsx]; try decide) (by simp [ByteArray.size_append, hsx]; try decide)).mono ?_
      rintro e w2 ⟨rfl, rfl⟩
      go_wp2_with fail
      refine (isUUID_no _ _ (by omega) (by omega)).mono ?_
      rintro e w2 ⟨rfl, rfl⟩
      go_wp2
      go_ret
      refine ⟨rfl, (((Below.refl _ _).alloc (Nat.le_refl _) _).alloc (by simp) _).trans (hb.mono (by simp; omega))⟩
end Go.Proofs.Qxb6605362a
