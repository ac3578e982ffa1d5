import Derived.Test.Qxb6001690aGua2
namespace Go.Proofs.Qxb6001690a
open Go.RowKit
set_option linter.unusedVariables false
set_option linter.unusedSimpArgs false

set_option maxHeartbeats 400000 in
theorem strsBytes2_any (a : Option Addr) (n c : Nat) (ss : List ByteArray) (w : World) (hn : ss.length = n) (hm : n + total ss ≤ 1048576) (hc : CellsAt w a (ss.map .string)) :
    Calls Try.prog 44 #[.slice a n c] w fun e w' => e = .returned (.int .i64 (16 * n + total ss : Nat)) ∧ w' = w := by
  have HN : Hid (ss.length = n) := hn
  have HC : Hid (CellsAt w a (ss.map .string)) := hc
  clear hn hc
  go_enter Try.func44, Try.ntmps44
  go_wp2
  go_loop [3, 4] (fun t i => ∃ (k : Nat) (z : Int), k ≤ n ∧ i = .int .i64 k ∧ t = .int .i64 z ∧ z = 16 * n + total (ss.take k)) (fun _ i => n - (intOf i).toNat)
  case atStart => exact ⟨0, _, Nat.zero_le _, rfl, rfl, by simp [total]⟩
  case round =>
    obtain ⟨k, z, hk, rfl, rfl, hz⟩ := hrel
    have HZ : Hid (z = 16 * n + total (ss.take k)) := hz
    have htk : total (ss.take k) ≤ total ss := by
      have := total_append (ss.take k) (ss.drop k)
      rw [List.take_append_drop] at this
      omega
    have hz0 : 0 ≤ z := by omega
    have hz1 : z ≤ 17825792 := by omega
    clear hz htk
    by_cases hlt : k < n
    · have hkl : k < ss.length := by rw [HN.out]; exact hlt
      obtain ⟨b, off, rfl, hcell⟩ := HC.out k (by simpa using hkl)
      simp only [List.getElem_map] at hcell
      have hsz : ss[k].size ≤ 1048576 := by have := total_ge (List.getElem_mem hkl); omega
      have HT : Hid (total (ss.take (k + 1)) = total (ss.take k) + ss[k].size) := total_snoc _ _ hkl
      go_wp2
      go_round
      case rel => exact ⟨k + 1, _, by omega, by go_num, rfl, by have := HZ.out; have := HT.out; omega⟩
      case measure => simp [intOf]; omega
    · go_wp2
      go_ret
      have e : ss.take k = ss := List.take_of_length_le (by have := HN.out; omega)
      have h := HZ.out
      rw [e] at h
      exact ⟨ret_int (by omega), rfl⟩

set_option maxHeartbeats 400000 in
theorem cloneStrs2_any (a : Option Addr) (n c : Nat) (xs : List ByteArray) (w : World) (hn : xs.length = n) (hm : n ≤ 1048576) (ha : a = none → n = 0) (hc : CellsAt w a (xs.map Value.string)) :
    Calls Try.prog 45 #[.slice a n c] w fun e w' => (∃ a', e = .returned (.slice a' n n) ∧ (a' = none → n = 0) ∧ CellsAt w' a' (xs.map Value.string)) ∧ Below w.heap.size w w' := by
  have q : ∀ (w : World) (a : Option Addr) (n c n' c' : Nat), (binOp .eql 22 (.slice a n c) (.slice none n' c')).run Try.prog w = .ok (.bool a.isNone) w := fun w a n c n' c' => Lib.run_eql_slice_nil w _ _ a n c n' c' Try.underlying22
  cases a with
  | none =>
    have hn0 := ha rfl
    subst hn0
    have hv : xs = [] := List.eq_nil_of_length_eq_zero hn
    subst hv
    go_enter Try.func45, Try.ntmps45
    go_wp2
    go_ret
    exact ⟨⟨none, rfl, fun k hk => absurd hk (by simp)⟩, Below.refl _ _⟩
  | some a =>
    have HN : Hid (xs.length = n) := hn
    have HC : Hid (CellsAt w (some a) (xs.map Value.string)) := hc
    clear hn hc ha
    have hmk := run_make_row' (P := Try.prog) 22 9 (.string ByteArray.empty) 16 Try.underlying22 Try.info9 rfl .i64 .i64 n (by omega) (by omega)
    go_enter Try.func45, Try.ntmps45
    go_wp2
    go_loopw [4] (fun i wr => ∃ k : Nat, k ≤ n ∧ i = .int .i64 k ∧ ∃ arr, RowAt wr w.heap.size 9 arr ∧ arr.size = n ∧ (∀ j (hj : j < (xs.map Value.string).length), j < k → arr[j]? = some (xs.map Value.string)[j]) ∧ Below w.heap.size w wr) (fun i _ => n - (intOf i).toNat)
    case atStart => exact ⟨0, Nat.zero_le _, rfl, _, RowAt.new _ _ _, by simp [size_madeCells], fun j _ h => absurd h (by omega), (Below.refl _ _).alloc (Nat.le_refl _) _⟩
    case round =>
      obtain ⟨k, hk, rfl, arr, hrow, hsz, hfill, hb⟩ := hrel
      have HR : Hid (RowAt wr w.heap.size 9 arr) := hrow
      have HF : Hid (∀ j (hj : j < (xs.map Value.string).length), j < k → arr[j]? = some (xs.map Value.string)[j]) := hfill
      have HZ : Hid (arr.size = n) := hsz
      have HB : Hid (Below w.heap.size w wr) := hb
      clear hrow hfill hsz hb
      by_cases hlt : k < n
      · have hkl : k < (xs.map Value.string).length := by rw [List.length_map, HN.out]; exact hlt
        have HS : Hid _ := filled_succ hkl (by rw [HZ.out, List.length_map, HN.out]) HF.out
        obtain ⟨b, off, ha, hcell⟩ := HC.out k hkl
        obtain rfl : a = ⟨b, off, none⟩ := by simpa using ha
        have hcell' := (HB.out.cell (World.block_lt_of_cell? w _ hcell)).trans hcell
        simp only [List.getElem_map] at hcell' HS
        have hfr := HR.out.frozen k
        have hold := HR.out.cellAt (j := k) (by rw [HZ.out]; exact hlt)
        clear hcell
        go_wp2
        go_roundw
        case rel => exact ⟨k + 1, by omega, by go_num, _, HR.out.set k _, by simp [HZ.out], by simpa using HS.out, HB.out.setCell (Nat.le_refl _) _⟩
        case measure => simp [intOf]; omega
      · go_wp2
        go_ret
        have e : arr = (xs.map Value.string).toArray := filled_all (by rw [HZ.out, List.length_map, HN.out]) fun j hj _ => HF.out j hj (by rw [List.length_map, HN.out] at hj; omega)
        refine ⟨⟨_, rfl, fun h => by simp at h, ?_⟩, HB.out⟩
        have := HR.out.cells
        rw [e] at this
        simpa using this

set_option maxHeartbeats 400000 in
theorem cloneInts2_any (a : Option Addr) (n c : Nat) (xs : List Int) (w : World) (hn : xs.length = n) (hm : n ≤ 1048576) (ha : a = none → n = 0) (hc : CellsAt w a (xs.map (Value.int .i64))) :
    Calls Try.prog 75 #[.slice a n c] w fun e w' => (∃ a', e = .returned (.slice a' n n) ∧ (a' = none → n = 0) ∧ CellsAt w' a' (xs.map (Value.int .i64))) ∧ Below w.heap.size w w' := by
  have q : ∀ (w : World) (a : Option Addr) (n c n' c' : Nat), (binOp .eql 45 (.slice a n c) (.slice none n' c')).run Try.prog w = .ok (.bool a.isNone) w := fun w a n c n' c' => Lib.run_eql_slice_nil w _ _ a n c n' c' Try.underlying45
  cases a with
  | none =>
    have hn0 := ha rfl
    subst hn0
    have hv : xs = [] := List.eq_nil_of_length_eq_zero hn
    subst hv
    go_enter Try.func75, Try.ntmps75
    go_wp2
    go_ret
    exact ⟨⟨none, rfl, fun k hk => absurd hk (by simp)⟩, Below.refl _ _⟩
  | some a =>
    have HN : Hid (xs.length = n) := hn
    have HC : Hid (CellsAt w (some a) (xs.map (Value.int .i64))) := hc
    clear hn hc ha
    have hmk := run_make_row' (P := Try.prog) 45 3 (.int .i64 0) 8 Try.underlying45 Try.info3 rfl .i64 .i64 n (by omega) (by omega)
    go_enter Try.func75, Try.ntmps75
    go_wp2
    go_loopw [4] (fun i wr => ∃ k : Nat, k ≤ n ∧ i = .int .i64 k ∧ ∃ arr, RowAt wr w.heap.size 3 arr ∧ arr.size = n ∧ (∀ j (hj : j < (xs.map (Value.int .i64)).length), j < k → arr[j]? = some (xs.map (Value.int .i64))[j]) ∧ Below w.heap.size w wr) (fun i _ => n - (intOf i).toNat)
    case atStart => exact ⟨0, Nat.zero_le _, rfl, _, RowAt.new _ _ _, by simp [size_madeCells], fun j _ h => absurd h (by omega), (Below.refl _ _).alloc (Nat.le_refl _) _⟩
    case round =>
      obtain ⟨k, hk, rfl, arr, hrow, hsz, hfill, hb⟩ := hrel
      have HR : Hid (RowAt wr w.heap.size 3 arr) := hrow
      have HF : Hid (∀ j (hj : j < (xs.map (Value.int .i64)).length), j < k → arr[j]? = some (xs.map (Value.int .i64))[j]) := hfill
      have HZ : Hid (arr.size = n) := hsz
      have HB : Hid (Below w.heap.size w wr) := hb
      clear hrow hfill hsz hb
      by_cases hlt : k < n
      · have hkl : k < (xs.map (Value.int .i64)).length := by rw [List.length_map, HN.out]; exact hlt
        have HS : Hid _ := filled_succ hkl (by rw [HZ.out, List.length_map, HN.out]) HF.out
        obtain ⟨b, off, ha, hcell⟩ := HC.out k hkl
        obtain rfl : a = ⟨b, off, none⟩ := by simpa using ha
        have hcell' := (HB.out.cell (World.block_lt_of_cell? w _ hcell)).trans hcell
        simp only [List.getElem_map] at hcell' HS
        have hfr := HR.out.frozen k
        have hold := HR.out.cellAt (j := k) (by rw [HZ.out]; exact hlt)
        clear hcell
        go_wp2
        go_roundw
        case rel => exact ⟨k + 1, by omega, by go_num, _, HR.out.set k _, by simp [HZ.out], by simpa using HS.out, HB.out.setCell (Nat.le_refl _) _⟩
        case measure => simp [intOf]; omega
      · go_wp2
        go_ret
        have e : arr = (xs.map (Value.int .i64)).toArray := filled_all (by rw [HZ.out, List.length_map, HN.out]) fun j hj _ => HF.out j hj (by rw [List.length_map, HN.out] at hj; omega)
        refine ⟨⟨_, rfl, fun h => by simp at h, ?_⟩, HB.out⟩
        have := HR.out.cells
        rw [e] at this
        simpa using this

end Go.Proofs.Qxb6001690a
