import Derived.Test.Qxb6001690aWalk3
import Derived.BigRegion
namespace Go.Proofs.Qxb6001690a
open Go.RowKit
set_option linter.unusedVariables false
set_option linter.unusedSimpArgs false

theorem Try.info114 : (Try.prog.info? 114).map (fun i => (i.zero, i.size, i.bytes)) = some (some (.agg #[.int .i64 0, .int .i64 0]), 2, 16) := by kernel_rfl

theorem RowAt.cellEx {w : World} {g : Nat} {e : TypeId} {arr : Array Value} (h : RowAt w g e arr) {j : Nat} (hj : j < arr.size) : ∃ v, w.cell? ⟨g, j, none⟩ = some v := ⟨_, h.cellAt hj⟩

/-- 'make([]T, n)' of whatever element type, as one closed fact. -/
theorem run_make_any {P : Program} (t e : TypeId) (z : Value) (size bytes : Nat) (ht : P.underlying t = some (.slice e)) (hinfo : (P.info? e).map (fun i => (i.zero, i.size, i.bytes)) = some (some z, size, bytes))
    (kl kc : IntKind) (n : Nat) (hbytes : bytes * n ≤ 281474976710656) (h63 : n ≤ 9223372036854775807) (w : World) :
    (Instr.makeSlice t (.int kl (n : Int)) (.int kc (n : Int))).run P w = .ok (.slice (some ⟨w.heap.size, 0, none⟩) n n) (w.alloc (.cells (madeCells z.cells (n * size)) e)) := by
  obtain ⟨i, hi, hz, hs, hb⟩ := info_parts hinfo
  subst hs hb
  have hb' : (i.bytes : Int) * (n : Int) ≤ 281474976710656 := by
    have h : ((i.bytes * n : Nat) : Int) ≤ 281474976710656 := by omega
    rwa [Int.natCast_mul] at h
  have hr := run_make (P := P) w t e i z ht hi hz kl kc n n (by omega) (Int.le_refl _) hb' (by omega)
  simpa using hr

/-- The row of spans: two cells a field. -/
def SpansIn (arr : Array Value) (n k : Nat) (starts ends : List Int) : Prop :=
  arr.size = n * 2 ∧ ∀ j (h1 : j < starts.length) (h2 : j < ends.length), j < k → arr[j * 2]? = some (.int .i64 starts[j]) ∧ arr[j * 2 + 1]? = some (.int .i64 ends[j])

theorem spans_succ {arr : Array Value} {n k : Nat} {starts ends : List Int} (h1 : k < starts.length) (h2 : k < ends.length) (hlt : k < n) (h : SpansIn arr n k starts ends) :
    SpansIn ((arr.setIfInBounds (k * 2) (.int .i64 starts[k])).setIfInBounds (k * 2 + 1) (.int .i64 ends[k])) n (k + 1) starts ends := by
  obtain ⟨hs, h⟩ := h
  refine ⟨by simpa using hs, fun j hj1 hj2 hjk => ?_⟩
  by_cases e : j = k
  · subst e
    rw [Array.getElem?_setIfInBounds_ne (by omega), Array.getElem?_setIfInBounds_self_of_lt (by omega), Array.getElem?_setIfInBounds_self_of_lt (by simp; omega)]
    exact ⟨rfl, rfl⟩
  · rw [Array.getElem?_setIfInBounds_ne (by omega), Array.getElem?_setIfInBounds_ne (by omega), Array.getElem?_setIfInBounds_ne (by omega), Array.getElem?_setIfInBounds_ne (by omega)]
    exact h j hj1 hj2 (by omega)

def textCells (u : Bool) (r : Int) (text : ByteArray) (spans fields : Value) : Array Value :=
  #[.pointer none, .bool false, .bool false, .bool false, .bool false, .bool false, .bool false, .bool false, .bool false, .bool u, .bool false, .int .u8 r, .string text, spans, fields]

set_option maxHeartbeats 1000000 in
theorem newText_any (u : Bool) (r : Int) (text : ByteArray) (a1 a2 : Option Addr) (n c1 c2 : Nat) (starts ends : List Int) (w : World) (hn1 : starts.length = n) (hn2 : ends.length = n) (hm : n ≤ 1048576)
    (hc1 : CellsAt w a1 (starts.map (.int .i64))) (hc2 : CellsAt w a2 (ends.map (.int .i64))) :
    Calls Try.prog 33 #[.bool u, .int .u8 r, .string text, .slice a1 n c1, .slice a2 n c2] w fun e w' =>
      (∃ p g arr, e = .returned (.pointer (some ⟨p, 0, none⟩)) ∧ RowAt w' p 119 (textCells u r text (.slice (some ⟨g, 0, none⟩) n n) (.slice none 0 0)) ∧ RowAt w' g 114 arr ∧ SpansIn arr n n starts ends ∧ g < p ∧ w.heap.size ≤ g) ∧ Below w.heap.size w w' := by
  have HN1 : Hid (starts.length = n) := hn1
  have HN2 : Hid (ends.length = n) := hn2
  have HC1 : Hid (CellsAt w a1 (starts.map (.int .i64))) := hc1
  have HC2 : Hid (CellsAt w a2 (ends.map (.int .i64))) := hc2
  clear hn1 hn2 hc1 hc2
  have hmk := run_make_any (P := Try.prog) 112 114 (.agg #[.int .i64 0, .int .i64 0]) 2 16 Try.underlying112 Try.info114 .i64 .i64 n (by omega) (by omega)
  go_enter Try.func33, Try.ntmps33
  go_wp2
  go_loopw [12] (fun i wr => ∃ k : Nat, k ≤ n ∧ i = .int .i64 k ∧ ∃ arr, RowAt wr w.heap.size 114 arr ∧ SpansIn arr n k starts ends ∧ Below w.heap.size w wr) (fun i _ => n - (intOf i).toNat)
  case atStart => exact ⟨0, Nat.zero_le _, rfl, _, RowAt.new _ _ _, ⟨by simp [size_madeCells], fun j _ _ h => absurd h (by omega)⟩, (Below.refl _ _).alloc (Nat.le_refl _) _⟩
  case round =>
    obtain ⟨k, hk, rfl, arr, hrow, hfill, hb⟩ := hrel
    have HR : Hid (RowAt wr w.heap.size 114 arr) := hrow
    have HF : Hid (SpansIn arr n k starts ends) := hfill
    have HB : Hid (Below w.heap.size w wr) := hb
    clear hrow hfill hb
    by_cases hlt : k < n
    · have hk1 : k < starts.length := by rw [HN1.out]; exact hlt
      have hk2 : k < ends.length := by rw [HN2.out]; exact hlt
      obtain ⟨b1, o1, rfl, hcell1⟩ := HC1.out k (by simpa using hk1)
      obtain ⟨b2, o2, rfl, hcell2⟩ := HC2.out k (by simpa using hk2)
      have hcell1' := (HB.out.cell (World.block_lt_of_cell? w _ hcell1)).trans hcell1
      have hcell2' := (HB.out.cell (World.block_lt_of_cell? w _ hcell2)).trans hcell2
      simp only [List.getElem_map] at hcell1' hcell2'
      clear hcell1 hcell2
      have hfr0 := HR.out.frozen (k * 2)
      have hfr1 := HR.out.frozen (k * 2 + 1)
      obtain ⟨v0, hold0⟩ := HR.out.cellEx (j := k * 2) (by rw [HF.out.1]; omega)
      obtain ⟨v1, hold1⟩ := HR.out.cellEx (j := k * 2 + 1) (by rw [HF.out.1]; omega)
      have hlti : (k : Int) < (n : Int) := by omega
      go_wp2
      go_region
      go_wp2
      go_roundw
      case rel => exact ⟨k + 1, by omega, by go_num, _, (HR.out.set _ _).set _ _, spans_succ hk1 hk2 hlt HF.out, ((HB.out.setCell (p := ⟨w.heap.size, k * 2, none⟩) (Nat.le_refl _) _).setCell (p := ⟨w.heap.size, k * 2 + 1, none⟩) (Nat.le_refl _) _).drew⟩
      case measure => simp [intOf]; omega
    · go_wp2
      go_ret
      have hkn : k = n := by omega
      subst hkn
      refine ⟨⟨_, _, _, rfl, RowAt.new _ _ _, ?_, HF.out, HR.out.lt, Nat.le_refl _⟩, HB.out.alloc HB.out.size _⟩
      exact HR.out.below ((Below.refl _ _).alloc (Nat.le_refl _) _) HR.out.lt

end Go.Proofs.Qxb6001690a
