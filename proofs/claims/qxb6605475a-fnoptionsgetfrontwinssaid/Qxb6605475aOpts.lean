import Derived.Test.Qxb6605475aBytes
namespace Go.Proofs.Qxb6605475a
open Go.RowKit

theorem Try.cells38 : Try.prog.cellsOf 38 = 2 := by kernel_rfl
theorem Try.cells43 : Try.prog.cellsOf 43 = 2 := by kernel_rfl

/-- A slice of options: their codes C, the values V of their data; where each lies. -/
structure OptsAt (lo : Nat) (w : World) (ao : Option Addr) (len : Nat) (C : Nat → Int) (V : Nat → Value) : Prop where
  cell : ∀ i, i < len → ∃ b off, ao = some ⟨b, off, none⟩ ∧ w.cell? ⟨b, off + i * 2, none⟩ = some (.int .u16 (C i)) ∧ w.cell? ⟨b, off + i * 2 + 1, none⟩ = some (V i)
  data : ∀ i, i < len → ∃ A n cap, V i = .slice A n cap ∧ n ≤ maxLen ∧ BsAt lo w A n ∧ (A = none → n = 0)

theorem OptsAt.below {lo : Nat} {w w' : World} {ao : Option Addr} {len : Nat} {C : Nat → Int} {V : Nat → Value} (h : OptsAt lo w ao len C V) (hb : Below w.heap.size w w') : OptsAt lo w' ao len C V :=
  ⟨fun i hi => by
    obtain ⟨b, off, h1, h2, h3⟩ := h.cell i hi
    exact ⟨b, off, h1, by rw [hb.cell (p := ⟨b, off + i * 2, none⟩) (block_lt_of_cell h2)]; exact h2, by rw [hb.cell (p := ⟨b, off + i * 2 + 1, none⟩) (block_lt_of_cell h3)]; exact h3⟩,
  fun i hi => by
    obtain ⟨A, n, cap, h1, h2, h3, h4⟩ := h.data i hi
    exact ⟨A, n, cap, h1, h2, h3.below hb, h4⟩⟩

/-- The length of a slice value. -/
def lenOf : Value → Nat | .slice _ n _ => n | _ => 0

set_option maxHeartbeats 1000000 in
set_option maxRecDepth 100000 in
theorem optBytes_any (ao : Option Addr) (len cap : Nat) (C : Nat → Int) (V : Nat → Value) (w : World) (h : OptsAt 0 w ao len C V) (hl : len ≤ 32768) (hd : ∀ i, i < len → lenOf (V i) ≤ 1048576) :
    Calls Try.prog 9 #[.slice ao len cap] w fun e w' => (∃ T : Nat, e = .returned (.int .i64 T) ∧ T ≤ 2097152) ∧ w' = w := by
  have HD : Hid (∀ i, i < len → lenOf (V i) ≤ 1048576) := hd
  clear hd
  go_enter Try.func9, Try.ntmps9
  go_wp2
  go_loop [3, 4] (fun t i => ∃ k T : Nat, k ≤ len ∧ T ≤ 1048576 ∧ i = .int .i64 k ∧ t = .int .i64 T) (fun _ i => len - (intOf i).toNat)
  case atStart => exact ⟨0, len * 32, Nat.zero_le _, by omega, rfl, by go_num⟩
  case round =>
    obtain ⟨k, T, hk, hT, rfl, rfl⟩ := hrel
    by_cases hlt : k < len
    · obtain ⟨b, off, rfl, hc, hv⟩ := h.cell k hlt
      obtain ⟨A, n, cp, hV, _, _, _⟩ := h.data k hlt
      have hn := HD.out k hlt
      rw [hV] at hv hn
      have hn' : n ≤ 1048576 := hn
      clear hn hV
      have hlt' : (k : Int) < (len : Int) := by omega
      by_cases hov : T + n ≤ 1048576
      · go_wp2
        go_round
        case rel => exact ⟨k + 1, T + n, by omega, hov, by go_num, by go_num⟩
        case measure => simp [intOf]; omega
      · go_wp2
        go_ret
        exact ⟨⟨T + n, rfl, by omega⟩, rfl⟩
    · go_wp2
      go_ret
      exact ⟨⟨T, rfl, by omega⟩, rfl⟩

/-- What the bound on total length answers. -/
def BytesE (len : Nat) (V : Nat → Value) (e : Ending) : Prop :=
  e = .returned (.bool false) ∨ (e = .returned (.bool true) ∧ len ≤ 1048576 ∧ ∀ i, i < len → lenOf (V i) ≤ 1048576)

set_option maxHeartbeats 1000000 in
set_option maxRecDepth 100000 in
theorem zzBytes_any (ao : Option Addr) (len cap : Nat) (C : Nat → Int) (V : Nat → Value) (code : Int) (w : World) (h : OptsAt 0 w ao len C V) (hl : len ≤ maxLen) :
    Calls Try.prog 8 #[.slice ao len cap, .int .u16 code] w fun e w' => BytesE len V e ∧ w' = w := by
  unfold maxLen at hl
  by_cases hbig : len ≤ 1048576
  · go_enter Try.func8, Try.ntmps8
    go_wp2
    go_loop [5, 6] (fun t i => ∃ k T : Nat, k ≤ len ∧ T ≤ 1048576 ∧ i = .int .i64 k ∧ t = .int .i64 T ∧ Hid (∀ j, j < k → lenOf (V j) ≤ 1048576)) (fun _ i => len - (intOf i).toNat)
    case atStart => exact ⟨0, len, Nat.zero_le _, by omega, rfl, rfl, fun j hj => absurd hj (by omega)⟩
    case round =>
      obtain ⟨k, T, hk, hT, rfl, rfl, hall⟩ := hrel
      by_cases hlt : k < len
      · obtain ⟨b, off, rfl, hc, hv⟩ := h.cell k hlt
        obtain ⟨A, n, cp, hV, hnm, _, _⟩ := h.data k hlt
        unfold maxLen at hnm
        have HV : Hid (V k = .slice A n cp) := hV
        rw [hV] at hv
        clear hV
        have hlt' : (k : Int) < (len : Int) := by omega
        by_cases hn : n ≤ 1048576
        · by_cases hov : T + n ≤ 1048576
          · go_wp2
            go_round
            case rel => exact ⟨k + 1, T + n, by omega, hov, by go_num, by go_num, fun j hj => by
              by_cases e : j = k
              · rw [e, HV.out]; exact hn
              · exact hall.out j (by omega)⟩
            case measure => simp [intOf]; omega
          · go_wp2
            go_ret
            exact ⟨.inl rfl, rfl⟩
        · go_wp2
          go_ret
          exact ⟨.inl rfl, rfl⟩
      · go_wp2
        go_ret
        exact ⟨.inr ⟨rfl, hbig, fun i hi => hall.out i (by omega)⟩, rfl⟩
  · go_enter Try.func8, Try.ntmps8
    go_wp2
    go_ret
    exact ⟨.inl rfl, rfl⟩

/-- What Get answers: the first option with the code, or none. -/
def GetE (len : Nat) (C : Nat → Int) (V : Nat → Value) (code : Int) (e : Ending) : Prop :=
  ∃ k, k ≤ len ∧ (∀ j, j < k → ¬ C j = code) ∧ ((k < len ∧ C k = code ∧ e = .returned (.tuple #[V k, .bool true])) ∨ (k = len ∧ e = .returned (.tuple #[.slice none 0 0, .bool false])))

set_option maxHeartbeats 1000000 in
set_option maxRecDepth 100000 in
theorem get_any (ao : Option Addr) (len cap : Nat) (C : Nat → Int) (V : Nat → Value) (code : Int) (w : World) (h : OptsAt 0 w ao len C V) (hl : len ≤ 1048576) :
    Calls Try.prog 12 #[.slice ao len cap, .int .u16 code] w fun e w' => GetE len C V code e ∧ Below w.heap.size w w' := by
  go_enter Try.func12, Try.ntmps12
  go_wp2
  go_loopw [10] (fun i wr => ∃ k : Nat, k ≤ len ∧ i = .int .i64 k ∧ Hid (∀ j, j < k → ¬ C j = code) ∧ Below w.heap.size w wr) (fun i _ => len - (intOf i).toNat)
  case atStart => exact ⟨0, Nat.zero_le _, rfl, fun j hj => absurd hj (by omega), Below.refl _ _⟩
  case round =>
    obtain ⟨k, hk, rfl, hno, hb⟩ := hrel
    by_cases hlt : k < len
    · have hw := h.below hb
      obtain ⟨b, off, rfl, hc, hv⟩ := hw.cell k hlt
      have hlt' : (k : Int) < (len : Int) := by omega
      obtain ⟨c, hcc⟩ : ∃ c, c = C k := ⟨_, rfl⟩
      rw [← hcc] at hc
      have HC : Hid (c = C k) := hcc
      obtain ⟨v, hvv⟩ : ∃ v, v = V k := ⟨_, rfl⟩
      rw [← hvv] at hv
      have HV : Hid (v = V k) := hvv
      obtain ⟨A, n, cp, hV, _, _, _⟩ := hw.data k hlt
      rw [← hvv] at hV
      subst hV
      clear hcc hvv hw
      by_cases he : c = code
      · have hbe : (c == code) = true := beq_iff_eq.2 he
        have HE : Hid (c = code) := he
        clear he
        go_wp2
        go_ret2
        exact ⟨⟨k, hk, hno.out, .inl ⟨hlt, HC.out.symm.trans HE.out, by rw [← HV.out]; rfl⟩⟩, hb.alloc hb.size _⟩
      · have hbe : (c == code) = false := beq_eq_false_iff_ne.2 he
        have HE : Hid (¬ c = code) := he
        clear he
        go_wp2
        go_roundw
        case rel => exact ⟨k + 1, by omega, by go_num, fun j hj => by
          by_cases e : j = k
          · rw [e, ← HC.out]; exact HE.out
          · exact hno.out j (by omega), hb.alloc hb.size _⟩
        case measure => simp [intOf]; omega
    · go_wp2
      go_ret2
      exact ⟨⟨k, hk, hno.out, .inr ⟨by omega, rfl⟩⟩, hb⟩
end Go.Proofs.Qxb6605475a
