import Derived.Test.Qxb6605369aRows
import Derived.Test.Qxb6605369aPre
import Derived.WalkKit
import Derived.ProofKit
import Derived.WalkSpells
import Derived.WalkLawsBesides
import Derived.Laws.IdiomStrings
import Derived.Lib.SlBytesRow
import Derived.Deep.QuietTactic
import Derived.BigQuiet
namespace Go.Proofs.Qxb6605369a
open Go.RowKit

theorem cs_same (w : World) (a : Addr) (u v : Value) (h : w.cell? a = some u) : (w.setCell a v).cell? a = some v := World.cell?_setCell_same w a v h
theorem cs_other (w : World) (a b : Addr) (v : Value) (h : a ≠ b) : (w.setCell a v).cell? b = w.cell? b := World.cell?_setCell_other w a b v h

theorem heap_alloc_new' (w : World) (o : Obj) : (w.drew.alloc o).heap[w.heap.size]? = some o := heap_alloc_new w.drew o

theorem conv_in (w : World) (s : ByteArray) : ∃ (W1 : World) (cap : Nat), (convert 9 36 (.string s)).run Try.prog w = .ok (.slice (some ⟨w.heap.size, 0, none⟩) s.size cap) W1 ∧ s.size ≤ cap ∧
    Below w.heap.size w W1 ∧ W1.heap.size = w.heap.size + 1 ∧
    (∀ j, j < s.size → W1.cell? ⟨w.heap.size, j, none⟩ = some (.int .u8 ((s.toList.getD j 0).toNat : Int))) ∧ (∀ j, j < s.size → W1.frozen? ⟨w.heap.size, j, none⟩ = false) := by
  have h := run_bytes_of_string (P := Try.prog) w 9 36 5 s Try.underlying9 Try.underlying36 Try.underlying5
  refine ⟨_, _, h, grownCap_ge _ _ _ _, ?_, ?_, ?_, ?_⟩
  · exact ((Below.refl _ _).drew).alloc (by simp) _
  · simp
  · intro j hj
    have h1 := bytesRow_at s (grownCap w s.size 0 5) j hj
    have h2 : s.toList.getD j 0 = s.data[j]'hj := by
      rw [ByteArray.toList_eq]
      simp [List.getD, hj]
    rw [h2, ← h1]
    simp only [World.cell?]
    rw [heap_alloc_new' w]
    rfl
  · intro j hj
    simp only [World.frozen?]
    rw [heap_alloc_new' w]
    have hsz : s.size ≤ (bytesRow s (grownCap w s.size 0 5)).size := by simp [bytesRow]
    simp
    omega

theorem conv_out (W : World) (b m cap : Nat) (l : List UInt8) (hl : l.length = m) (hc : ∀ j, j < m → W.cell? ⟨b, j, none⟩ = some (.int .u8 ((l.getD j 0).toNat : Int))) :
    (convert 36 9 (.slice (some ⟨b, 0, none⟩) m cap)).run Try.prog W = .ok (.string ⟨l.toArray⟩) W := by
  have hsz : (ByteArray.mk l.toArray).size = m := by simp [ByteArray.size, hl]
  have h := Lib.run_convert_whole (P := Try.prog) W 36 5 9 Try.underlying36 Try.underlying5 Try.underlying9 b 0 ⟨l.toArray⟩ (fun i hi => by
    rw [Nat.zero_add, hc i (by omega)]
    have hi' : i < l.length := by omega
    have e : (ByteArray.mk l.toArray)[i]'hi = l[i]'hi' := rfl
    rw [e]
    simp [List.getD, List.getElem?_eq_getElem hi']) cap
  rw [hsz] at h
  exact h

/-- A slice's length, for a loop's measure. -/
def sliceLen : Value → Nat | .slice _ m _ => m | _ => 0

theorem take_at (l : List UInt8) (n : Nat) (h : n < l.length) : l.take (n + 1) = l.take n ++ [l.getD n 0] := by
  rw [List.take_succ_eq_append_getElem h]
  simp [List.getD, List.getElem?_eq_getElem h]

set_option maxHeartbeats 1000000 in
set_option maxRecDepth 100000 in
theorem prefixRows_any (s : ByteArray) (w : World) (hs : s.size ≤ 1048576) :
    Calls Try.prog 14 #[.string s] w fun e w' => ∃ t : ByteArray, e = .returned (.agg #[.string s, .string t]) ∧ t.toList = nx s.toList ∧ Below w.heap.size w w' := by
  obtain ⟨W1, cap, hcv, hcap, hb0, hsz, hcell, hfz⟩ := conv_in (w.alloc (.cells #[.string ⟨#[]⟩, .string ⟨#[]⟩] 34)) s
  have eB : (w.alloc (.cells #[.string ⟨#[]⟩, .string ⟨#[]⟩] 34)).heap.size = w.heap.size + 1 := by simp
  rw [eB] at hb0 hsz hcell hfz
  have HC : Hid (∀ j, j < s.size → W1.cell? ⟨w.heap.size + 1, j, none⟩ = some (.int .u8 ((s.toList.getD j 0).toNat : Int))) := hcell
  have HF : Hid (∀ j, j < s.size → W1.frozen? ⟨w.heap.size + 1, j, none⟩ = false) := hfz
  have hb : Below w.heap.size w W1 := ((Below.refl _ _).alloc (Nat.le_refl _) _).trans (hb0.mono (by omega))
  have hrc : ∀ j, j < 2 → W1.cell? ⟨w.heap.size, j, none⟩ = some (.string ⟨#[]⟩) := fun j hj => by
    rw [hb0.cell (p := ⟨w.heap.size, j, none⟩) (Nat.lt_succ_self _), World.cell?_alloc_at _ _ _ _ rfl]
    match j, hj with
    | 0, _ => rfl
    | 1, _ => rfl
  have hrf : ∀ j, j < 2 → W1.frozen? ⟨w.heap.size, j, none⟩ = false := fun j hj => by
    rw [hb0.frozen (p := ⟨w.heap.size, j, none⟩) (Nat.lt_succ_self _), World.frozen?_alloc_at _ _ _ _ rfl]
  have hr0 := hrc 0 (by omega)
  have hr1 := hrc 1 (by omega)
  have hf0 := hrf 0 (by omega)
  have hf1 := hrf 1 (by omega)
  have hsl : s.toList.length = s.size := by rw [ByteArray.toList_eq]; exact (Lib.size_eq s).symm
  clear hcell hfz eB hrc hrf
  go_enter Try.func14, Try.ntmps14
  go_wp2
  clear hcv
  go_loop [3] (fun v => ∃ m : Nat, m ≤ s.size ∧ v = .slice (some ⟨w.heap.size + 1, 0, none⟩) m cap ∧ Hid (nx (s.toList.take m) = nx s.toList)) (fun v => sliceLen v)
  case atStart => exact ⟨s.size, Nat.le_refl _, rfl, by show _ = _; rw [List.take_of_length_le (by omega)]⟩
  case round =>
    obtain ⟨m, hm, rfl, hnx⟩ := hrel
    cases m with
    | zero =>
      have hcv := conv_out W1 (w.heap.size + 1) 0 cap [] rfl (fun j h => absurd h (by omega))
      go_wp2
      refine bodyPost_ret (v := .agg #[.string s, .string ⟨#[]⟩]) (by simp [results, Try.results14, go_sem, hr0, hr1]) rfl ⟨_, rfl, ?_, ?_⟩
      · have := hnx.out
        rw [← this, ByteArray.toList_eq]
        rfl
      · exact (hb.setCell (Nat.le_refl _) _).setCell (Nat.le_refl _) _
    | succ n =>
      have hc := HC.out n (by omega)
      have hf := HF.out n (by omega)
      have hti := take_at s.toList n (by omega)
      obtain ⟨c, hcc⟩ : ∃ c, c = s.toList.getD n 0 := ⟨_, rfl⟩
      rw [← hcc] at hc hti
      have HT : Hid (s.toList.take (n + 1) = s.toList.take n ++ [c]) := hti
      clear hti hcc
      by_cases h255 : c = 255
      · subst h255
        go_wp2
        go_round
        case rel => exact ⟨n, by omega, rfl, by
          show _ = _
          rw [← hnx.out, HT.out, nx_ff]⟩
        case measure => simp [sliceLen]
      · have hlt : (c.toNat : Int) < 255 := by
          have h1 : c.toNat ≠ 255 := fun e => h255 (UInt8.toNat_inj.1 (by simpa using e))
          have h2 := c.toNat_lt
          omega
        have hne : ((c.toNat : Int) == 255) = false := beq_eq_false_iff_ne.2 (by omega)
        have hlen : (s.toList.take n ++ [c + 1]).length = n + 1 := by simp; omega
        have hcv := conv_out (W1.setCell ⟨w.heap.size + 1, n, none⟩ (.int .u8 ((c.toNat : Int) + 1))) (w.heap.size + 1) (n + 1) cap (s.toList.take n ++ [c + 1]) hlen (fun j hj => by
          by_cases e : j = n
          · subst e
            rw [cs_same _ _ _ _ hc]
            have e1 : (s.toList.take j ++ [c + 1]).getD j 0 = c + 1 := by
              have hl : (s.toList.take j).length = j := by simp; omega
              simp [List.getD, hl]
            rw [e1]
            have e2 : ((c + 1).toNat : Int) = (c.toNat : Int) + 1 := by
              rw [UInt8.toNat_add]
              simp
              omega
            rw [e2]
          · rw [cs_other W1 ⟨w.heap.size + 1, n, none⟩ ⟨w.heap.size + 1, j, none⟩ _ (fun h => e (Addr.mk.inj h).2.1.symm), HC.out j (by omega)]
            have e1 : (s.toList.take n ++ [c + 1]).getD j 0 = s.toList.getD j 0 := by
              have hl : (s.toList.take n).length = n := by simp; omega
              have hjn : j < n := by omega
              have hjs : j < s.toList.length := by omega
              simp [List.getD, List.getElem?_append, hl, hjn, List.getElem?_eq_getElem hjs]
            rw [e1])
        have HN : Hid (nx s.toList = s.toList.take n ++ [c + 1]) := by
          show _ = _
          rw [← hnx.out, HT.out, nx_snoc _ _ h255]
        clear h255 hlen
        generalize s.toList.take n ++ [c + 1] = tl at *
        have g0 : (W1.setCell ⟨w.heap.size + 1, n, none⟩ (.int .u8 ((c.toNat : Int) + 1))).cell? ⟨w.heap.size, 0, none⟩ = some (.string ⟨#[]⟩) := by
          rw [cs_other _ _ _ _ (by intro h; simp at h), hr0]
        have g1 : (W1.setCell ⟨w.heap.size + 1, n, none⟩ (.int .u8 ((c.toNat : Int) + 1))).cell? ⟨w.heap.size, 1, none⟩ = some (.string ⟨#[]⟩) := by
          rw [cs_other _ _ _ _ (by intro h; simp at h), hr1]
        go_wp2
        refine bodyPost_ret (v := .agg #[.string s, .string ⟨tl.toArray⟩]) (by simp [results, Try.results14, go_sem, g0, g1]) rfl ⟨_, rfl, ?_, ?_⟩
        · rw [HN.out]; simp
        · exact ((hb.setCell (by simp) _).setCell (Nat.le_refl _) _).setCell (Nat.le_refl _) _

set_option maxHeartbeats 1000000 in
theorem zzPrefixRows_any (s : ByteArray) (w : World) (hs : s.size ≤ 1048576) :
    Calls Try.prog 12 #[.string s] w fun e w' => ∃ t : ByteArray, e = .returned (.tuple #[.string s, .string t]) ∧ t.toList = nx s.toList ∧ Below w.heap.size w w' := by
  go_enter Try.func12, Try.ntmps12
  go_wp2_with fail
  refine (prefixRows_any s _ hs).mono ?_
  rintro e w1 ⟨t, rfl, ht, hb⟩
  have HT : Hid (t.toList = nx s.toList) := ht
  clear ht
  go_wp2_with fail
  go_quiet (fail)
  go_wp2
  go_ret2
  refine ⟨t, rfl, HT.out, ?_⟩
  exact below_drewN ((hb.alloc hb.size _)) _

theorem zzBytes_yes (p k : ByteArray) (w : World) (h : p.size + k.size ≤ 1048576) :
    Calls Try.prog 11 #[.string p, .string k] w fun e w' => e = .returned (.bool true) ∧ w' = w := by
  go_enter Try.func11, Try.ntmps11
  go_wp2
  go_ret
  exact ⟨rfl, rfl⟩

theorem zzBytes_no (p k : ByteArray) (w : World) (hp : p.size ≤ maxLen) (hk : k.size ≤ maxLen) (h : ¬ p.size + k.size ≤ 1048576) :
    Calls Try.prog 11 #[.string p, .string k] w fun e w' => e = .returned (.bool false) ∧ w' = w := by
  unfold maxLen at hp hk
  by_cases h1 : p.size ≤ 1048576
  · by_cases h2 : k.size ≤ 1048576
    · go_enter Try.func11, Try.ntmps11
      go_wp2
      go_ret
      exact ⟨rfl, rfl⟩
    · go_enter Try.func11, Try.ntmps11
      go_wp2
      go_ret
      exact ⟨rfl, rfl⟩
  · go_enter Try.func11, Try.ntmps11
    go_wp2
    go_ret
    exact ⟨rfl, rfl⟩

set_option maxHeartbeats 1000000 in
set_option maxRecDepth 100000 in
theorem prefixMain (a0 : ByteArray) (a1 : ByteArray) (w0 : a0.size ≤ maxLen) (w1 : a1.size ≤ maxLen) (w : World) :
    Calls Try.prog 5 #[.string a0, .string a1] w fun e w' => e = .returned (.bool true) ∧ Below w.heap.size w w' := by
  by_cases hsum : a0.size + a1.size ≤ 1048576
  · go_enter Try.func5, Try.ntmps5
    go_wp2_with (first | (go_at_call 11; refine (zzBytes_yes _ _ _ hsum).mono ?_; rintro e w' ⟨rfl, rfl⟩) | fail)
    refine (zzPrefixRows_any a0 _ (by omega)).mono ?_
    rintro e w2 ⟨t, rfl, ht, hb⟩
    have HF : Hid (((Op.bytesLess a0.toList a1.toList || a0.toList == a1.toList) && (t.toList.isEmpty || Op.bytesLess a1.toList t.toList)) = (decide (a0.size ≤ a1.size) && ((a1.extract 0 a0.size).toList == a0.toList))) := by
      show _ = _
      have h := range_law a0.toList a1.toList
      have e0 : a0.toList.length = a0.size := by rw [ByteArray.toList_eq]; exact (Lib.size_eq a0).symm
      have e1 : a1.toList.length = a1.size := by rw [ByteArray.toList_eq]; exact (Lib.size_eq a1).symm
      have e2 : (a1.extract 0 a0.size).toList = a1.toList.take a0.size := by
        rw [ByteArray.toList_eq, ByteArray.toList_eq, Lib.extract_data]
        simp
      rw [e0, e1, ← ht] at h
      rw [e2, ← h]
      cases t.toList <;> rfl
    clear ht
    go_wp2
    all_goals
      go_ret
      refine ⟨?_, hb⟩
      have F := HF.out
      clear HF
      show Ending.returned (Value.bool _) = _
      by_cases hz : a0.size ≤ a1.size
      · by_cases hq : a0.toList = a1.toList
        · first | (exfalso; omega) | (congr 2 <;> simp_all)
        · have hq' : (a0.toList == a1.toList) = false := beq_eq_false_iff_ne.2 hq
          rw [hq'] at F <;> (first | (exfalso; omega) | (congr 2 <;> simp_all))
      · by_cases hq : a0.toList = a1.toList
        · first | (exfalso; omega) | (congr 2 <;> simp_all)
        · have hq' : (a0.toList == a1.toList) = false := beq_eq_false_iff_ne.2 hq
          rw [hq'] at F <;> (first | (exfalso; omega) | (congr 2 <;> simp_all))
  · go_enter Try.func5, Try.ntmps5
    go_wp2_with (go_at_call 11; refine (zzBytes_no _ _ _ w0 w1 hsum).mono ?_; rintro e w' ⟨rfl, rfl⟩)
    go_ret
    exact ⟨rfl, Below.refl _ _⟩
end Go.Proofs.Qxb6605369a
