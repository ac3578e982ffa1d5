import Derived.Test.Qxb6600888aStr4
import Derived.Deep.OwnRows
import Derived.Deep.Light
namespace Go.Proofs.Qxb6600888a
open Go.RowKit
set_option linter.unusedVariables false
set_option linter.unusedSimpArgs false

/-- What a slice's cells hold. -/
def CellsAt (w : World) (a : Option Addr) (vs : List Value) : Prop :=
  ∀ k (h : k < vs.length), ∃ b off, a = some ⟨b, off, none⟩ ∧ w.cell? ⟨b, off + k, none⟩ = some vs[k]

/-- Block g is a row of our own: it holds just these cells, and may be written. -/
def RowAt (w : World) (g : Nat) (e : TypeId) (arr : Array Value) : Prop := w.heap[g]? = some (.cells arr e (0, 0))

theorem RowAt.lt {w : World} {g : Nat} {e : TypeId} {arr : Array Value} (h : RowAt w g e arr) : g < w.heap.size := lt_of_block h
theorem RowAt.cell {w : World} {g : Nat} {e : TypeId} {arr : Array Value} (h : RowAt w g e arr) (j : Nat) : w.cell? ⟨g, j, none⟩ = arr[j]? :=
  cell_of_row w g j arr e (0, 0) h
theorem RowAt.cellAt {w : World} {g : Nat} {e : TypeId} {arr : Array Value} (h : RowAt w g e arr) {j : Nat} (hj : j < arr.size) : w.cell? ⟨g, j, none⟩ = some arr[j] := by
  rw [h.cell, Array.getElem?_eq_getElem hj]
theorem RowAt.frozen {w : World} {g : Nat} {e : TypeId} {arr : Array Value} (h : RowAt w g e arr) (j : Nat) : w.frozen? ⟨g, j, none⟩ = false :=
  frozen_of_row w g j arr e h
theorem RowAt.set {w : World} {g : Nat} {e : TypeId} {arr : Array Value} (h : RowAt w g e arr) (j : Nat) (u : Value) : RowAt (w.setCell ⟨g, j, none⟩ u) g e (arr.setIfInBounds j u) :=
  heap_setCell_same w g j arr e u h
theorem RowAt.setOther {w : World} {g : Nat} {e : TypeId} {arr : Array Value} (h : RowAt w g e arr) {g' : Nat} (hne : g ≠ g') (j : Nat) (u : Value) : RowAt (w.setCell ⟨g', j, none⟩ u) g e arr :=
  (heap_setCell_other w ⟨g', j, none⟩ g u hne).trans h
theorem RowAt.below {w w' : World} {g : Nat} {e : TypeId} {arr : Array Value} {B : Nat} (h : RowAt w g e arr) (hb : Below B w w') (hg : g < B) : RowAt w' g e arr :=
  (hb.block g hg).trans h
theorem RowAt.new (w : World) (e : TypeId) (arr : Array Value) : RowAt (w.alloc (.cells arr e)) w.heap.size e arr := heap_alloc_new w _

/-- Cells that were there stay where nothing that was there has turned. -/
theorem CellsAt.below {w w' : World} {a : Option Addr} {vs : List Value} (h : CellsAt w a vs) (hb : Below w.heap.size w w') : CellsAt w' a vs := by
  intro k hk
  obtain ⟨b, off, ha, hc⟩ := h k hk
  exact ⟨b, off, ha, (hb.cell (World.block_lt_of_cell? w _ hc)).trans hc⟩
theorem RowAt.cells {w : World} {g : Nat} {e : TypeId} {arr : Array Value} (h : RowAt w g e arr) : CellsAt w (some ⟨g, 0, none⟩) arr.toList := by
  intro k hk
  refine ⟨g, 0, rfl, ?_⟩
  rw [h.cell, Nat.zero_add]
  simp at hk
  simp [hk]

/-- A row that agrees with the list as far as k, one cell further. -/
theorem filled_succ {arr : Array Value} {vs : List Value} {k : Nat} (hk : k < vs.length) (hs : arr.size = vs.length) (h : ∀ j (hj : j < vs.length), j < k → arr[j]? = some vs[j]) :
    ∀ j (hj : j < vs.length), j < k + 1 → (arr.setIfInBounds k vs[k])[j]? = some vs[j] := by
  intro j hj hjk
  by_cases e : j = k
  · subst e; simp [hs, hk]
  · rw [Array.getElem?_setIfInBounds_ne (by omega)]; exact h j hj (by omega)
theorem filled_all {arr : Array Value} {vs : List Value} (hs : arr.size = vs.length) (h : ∀ j (hj : j < vs.length), j < vs.length → arr[j]? = some vs[j]) : arr = vs.toArray := by
  apply Array.ext_getElem?
  intro j
  by_cases hj : j < vs.length
  · rw [h j hj hj]; simp [hj]
  · rw [Array.getElem?_eq_none (by omega)]; simp; omega

/-- What stays: all blocks but those of S. -/
structure Kept (S : Nat → Prop) (w w' : World) : Prop where
  os : w'.os = w.os
  tape : w'.tape = w.tape
  output : w'.output = w.output
  size : w.heap.size ≤ w'.heap.size
  block : ∀ k, k < w.heap.size → ¬ S k → w'.heap[k]? = w.heap[k]?
theorem Kept.of_below {S : Nat → Prop} {w w' : World} (h : Below w.heap.size w w') : Kept S w w' := ⟨h.os, h.tape, h.output, h.size, fun k hk _ => h.block k hk⟩
theorem Kept.trans {S : Nat → Prop} {a b c : World} (h : Kept S a b) (k : Kept S b c) : Kept S a c :=
  ⟨k.os.trans h.os, k.tape.trans h.tape, k.output.trans h.output, Nat.le_trans h.size k.size, fun i hi hs => (k.block i (Nat.lt_of_lt_of_le hi h.size) hs).trans (h.block i hi hs)⟩
theorem Kept.mono {S T : Nat → Prop} {a b : World} (h : Kept S a b) (hst : ∀ k, S k → T k) : Kept T a b := ⟨h.os, h.tape, h.output, h.size, fun i hi hs => h.block i hi fun hh => hs (hst i hh)⟩
theorem Kept.set {S : Nat → Prop} (w : World) (g j : Nat) (v : Value) (hs : S g) : Kept S w (w.setCell ⟨g, j, none⟩ v) :=
  ⟨rfl, rfl, rfl, by simp, fun k _ hk => heap_setCell_other w ⟨g, j, none⟩ k v (fun e => hk (by simp only at e; rw [e]; exact hs))⟩
theorem Kept.below {S : Nat → Prop} {w w' : World} (h : Kept S w w') {B : Nat} (hB : B ≤ w.heap.size) (hs : ∀ k, k < B → ¬ S k) : Below B w w' :=
  ⟨h.os, h.tape, h.output, h.size, fun k hk => h.block k (by omega) (hs k hk)⟩
theorem RowAt.kept {S : Nat → Prop} {w w' : World} {g : Nat} {e : TypeId} {arr : Array Value} (h : RowAt w g e arr) (hk : Kept S w w') (hg : ¬ S g) : RowAt w' g e arr := (hk.block g h.lt hg).trans h

theorem Try.info9 : (Try.prog.info? 9).map (fun i => (i.zero, i.size, i.bytes)) = some (some (.string ByteArray.empty), 1, 16) := by kernel_rfl
theorem Try.info3 : (Try.prog.info? 3).map (fun i => (i.zero, i.size, i.bytes)) = some (some (.int .i64 0), 1, 8) := by kernel_rfl
theorem Try.info53 : (Try.prog.info? 53).map (fun i => (i.zero, i.size, i.bytes)) = some (some (.agg #[.string ByteArray.empty, .int .i64 0, .int .u32 0, .pointer none, .int .u32 0]), 5, 48) := by kernel_rfl
theorem Try.info56 : (Try.prog.info? 56).map (fun i => (i.zero, i.size, i.bytes)) = some (some (.agg #[.string ByteArray.empty, .int .i32 0, .int .i32 0, .bool false, .int .u32 0, .int .u32 0, .int .u32 0, .int .u32 0]), 8, 48) := by kernel_rfl
theorem Try.info40 : (Try.prog.info? 40).map (fun i => (i.zero, i.size, i.bytes)) = some (some (.agg #[.string ByteArray.empty, .int .i32 0, .int .i32 0, .bool false, .int .u32 0, .int .u32 0, .int .u32 0, .int .u32 0]), 8, 48) := by kernel_rfl
theorem Try.info64 : (Try.prog.info? 64).map (fun i => (i.zero, i.size, i.bytes)) = some (some (.agg #[.int .i64 0, .int .i64 0, .int .i64 0]), 3, 24) := by kernel_rfl
theorem Try.info41 : (Try.prog.info? 41).map (fun i => (i.zero, i.size, i.bytes)) = some (some (.int .u64 0), 1, 8) := by kernel_rfl
theorem Try.info38 : (Try.prog.info? 38).map (fun i => (i.zero, i.size, i.bytes)) = some (some (.int .u32 0), 1, 4) := by kernel_rfl

set_option maxHeartbeats 400000 in
theorem cloneStrs_any (a : Option Addr) (n c : Nat) (xs : List ByteArray) (w : World) (hn : xs.length = n) (hm : n ≤ 1048576) (ha : a = none → n = 0) (hc : CellsAt w a (xs.map Value.string)) :
    Calls Try.prog 8 #[.slice a n c] w fun e w' => (∃ a', e = .returned (.slice a' n n) ∧ (a' = none → n = 0) ∧ CellsAt w' a' (xs.map Value.string)) ∧ Below w.heap.size w w' := by
  have q : ∀ (w : World) (a : Option Addr) (n c n' c' : Nat), (binOp .eql 22 (.slice a n c) (.slice none n' c')).run Try.prog w = .ok (.bool a.isNone) w := fun w a n c n' c' => Lib.run_eql_slice_nil w _ _ a n c n' c' Try.underlying22
  cases a with
  | none =>
    have hn0 := ha rfl
    subst hn0
    have hv : xs = [] := List.eq_nil_of_length_eq_zero hn
    subst hv
    go_enter Try.func8, Try.ntmps8
    go_wp2
    go_ret
    exact ⟨⟨none, rfl, fun k hk => absurd hk (by simp)⟩, Below.refl _ _⟩
  | some a =>
    have HN : Hid (xs.length = n) := hn
    have HC : Hid (CellsAt w (some a) (xs.map Value.string)) := hc
    clear hn hc ha
    have hmk := run_make_row' (P := Try.prog) 22 9 (.string ByteArray.empty) 16 Try.underlying22 Try.info9 rfl .i64 .i64 n (by omega) (by omega)
    go_enter Try.func8, Try.ntmps8
    go_wp2
    go_loopw [4, 12] (fun _ i wr => ∃ k : Nat, k ≤ n ∧ i = .int .i64 k ∧ ∃ arr, RowAt wr w.heap.size 9 arr ∧ arr.size = n ∧ (∀ j (hj : j < (xs.map Value.string).length), j < k → arr[j]? = some (xs.map Value.string)[j]) ∧ Below w.heap.size w wr) (fun _ i _ => n - (intOf i).toNat)
    case atStart => exact ⟨0, Nat.zero_le _, rfl, _, RowAt.new _ _ _, by simp [size_madeCells], fun j _ h => absurd h (by omega), (Below.refl _ _).alloc (Nat.le_refl _) _⟩
    case round =>
      obtain ⟨k, hk, rfl, arr, hrow, hsz, hfill, hb⟩ := hrel
      have HR : Hid (RowAt wr w.heap.size 9 arr) := hrow
      have HF : Hid (∀ j (hj : j < (xs.map Value.string).length), j < k → arr[j]? = some (xs.map Value.string)[j]) := hfill
      have HZ : Hid (arr.size = n) := hsz
      have HB : Hid (Below w.heap.size w wr) := hb
      clear hrow hfill hsz hb
      by_cases hlt : k < n
      · have hkl : k < (xs.map Value.string).length := by rw [List.length_map, HN.out]; exact hlt
        have HS : Hid _ := filled_succ hkl (by rw [HZ.out, List.length_map, HN.out]) HF.out
        obtain ⟨b, off, ha, hcell⟩ := HC.out k hkl
        obtain rfl : a = ⟨b, off, none⟩ := by simpa using ha
        have hcell' := (HB.out.cell (World.block_lt_of_cell? w _ hcell)).trans hcell
        simp only [List.getElem_map] at hcell' HS
        have hfr := HR.out.frozen k
        have hold := HR.out.cellAt (j := k) (by rw [HZ.out]; exact hlt)
        clear hcell
        go_wp2
        go_roundw
        case rel => exact ⟨k + 1, by omega, by go_num, _, HR.out.set k _, by simp [HZ.out], by simpa using HS.out, HB.out.setCell (Nat.le_refl _) _⟩
        case measure => simp [intOf]; omega
      · go_wp2
        go_ret
        have e : arr = (xs.map Value.string).toArray := filled_all (by rw [HZ.out, List.length_map, HN.out]) fun j hj _ => HF.out j hj (by rw [List.length_map, HN.out] at hj; omega)
        refine ⟨⟨_, rfl, fun h => by simp at h, ?_⟩, HB.out⟩
        have := HR.out.cells
        rw [e] at this
        simpa using this

set_option maxHeartbeats 400000 in
theorem cloneU32_any (a : Option Addr) (n c : Nat) (xs : List Int) (w : World) (hn : xs.length = n) (hm : n ≤ 1048576) (ha : a = none → n = 0) (hc : CellsAt w a (xs.map (Value.int .u32))) :
    Calls Try.prog 9 #[.slice a n c] w fun e w' => (∃ a', e = .returned (.slice a' n n) ∧ (a' = none → n = 0) ∧ CellsAt w' a' (xs.map (Value.int .u32))) ∧ Below w.heap.size w w' := by
  have q : ∀ (w : World) (a : Option Addr) (n c n' c' : Nat), (binOp .eql 23 (.slice a n c) (.slice none n' c')).run Try.prog w = .ok (.bool a.isNone) w := fun w a n c n' c' => Lib.run_eql_slice_nil w _ _ a n c n' c' Try.underlying23
  cases a with
  | none =>
    have hn0 := ha rfl
    subst hn0
    have hv : xs = [] := List.eq_nil_of_length_eq_zero hn
    subst hv
    go_enter Try.func9, Try.ntmps9
    go_wp2
    go_ret
    exact ⟨⟨none, rfl, fun k hk => absurd hk (by simp)⟩, Below.refl _ _⟩
  | some a =>
    have HN : Hid (xs.length = n) := hn
    have HC : Hid (CellsAt w (some a) (xs.map (Value.int .u32))) := hc
    clear hn hc ha
    have hmk := run_make_row' (P := Try.prog) 23 38 (.int .u32 0) 4 Try.underlying23 Try.info38 rfl .i64 .i64 n (by omega) (by omega)
    go_enter Try.func9, Try.ntmps9
    go_wp2
    go_loopw [4, 12] (fun _ i wr => ∃ k : Nat, k ≤ n ∧ i = .int .i64 k ∧ ∃ arr, RowAt wr w.heap.size 38 arr ∧ arr.size = n ∧ (∀ j (hj : j < (xs.map (Value.int .u32)).length), j < k → arr[j]? = some (xs.map (Value.int .u32))[j]) ∧ Below w.heap.size w wr) (fun _ i _ => n - (intOf i).toNat)
    case atStart => exact ⟨0, Nat.zero_le _, rfl, _, RowAt.new _ _ _, by simp [size_madeCells], fun j _ h => absurd h (by omega), (Below.refl _ _).alloc (Nat.le_refl _) _⟩
    case round =>
      obtain ⟨k, hk, rfl, arr, hrow, hsz, hfill, hb⟩ := hrel
      have HR : Hid (RowAt wr w.heap.size 38 arr) := hrow
      have HF : Hid (∀ j (hj : j < (xs.map (Value.int .u32)).length), j < k → arr[j]? = some (xs.map (Value.int .u32))[j]) := hfill
      have HZ : Hid (arr.size = n) := hsz
      have HB : Hid (Below w.heap.size w wr) := hb
      clear hrow hfill hsz hb
      by_cases hlt : k < n
      · have hkl : k < (xs.map (Value.int .u32)).length := by rw [List.length_map, HN.out]; exact hlt
        have HS : Hid _ := filled_succ hkl (by rw [HZ.out, List.length_map, HN.out]) HF.out
        obtain ⟨b, off, ha, hcell⟩ := HC.out k hkl
        obtain rfl : a = ⟨b, off, none⟩ := by simpa using ha
        have hcell' := (HB.out.cell (World.block_lt_of_cell? w _ hcell)).trans hcell
        simp only [List.getElem_map] at hcell' HS
        have hfr := HR.out.frozen k
        have hold := HR.out.cellAt (j := k) (by rw [HZ.out]; exact hlt)
        clear hcell
        go_wp2
        go_roundw
        case rel => exact ⟨k + 1, by omega, by go_num, _, HR.out.set k _, by simp [HZ.out], by simpa using HS.out, HB.out.setCell (Nat.le_refl _) _⟩
        case measure => simp [intOf]; omega
      · go_wp2
        go_ret
        have e : arr = (xs.map (Value.int .u32)).toArray := filled_all (by rw [HZ.out, List.length_map, HN.out]) fun j hj _ => HF.out j hj (by rw [List.length_map, HN.out] at hj; omega)
        refine ⟨⟨_, rfl, fun h => by simp at h, ?_⟩, HB.out⟩
        have := HR.out.cells
        rw [e] at this
        simpa using this


end Go.Proofs.Qxb6600888a
