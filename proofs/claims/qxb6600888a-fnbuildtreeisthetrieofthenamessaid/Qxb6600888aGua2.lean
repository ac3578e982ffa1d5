import Derived.Test.Qxb6600888aGua
namespace Go.Proofs.Qxb6600888a
open Go.RowKit
set_option linter.unusedVariables false
set_option linter.unusedSimpArgs false

def padL (cs : List Int) (n : Nat) : List Int := (List.range n).map fun i => cs.getD i 0
theorem padL_length (cs : List Int) (n : Nat) : (padL cs n).length = n := by simp [padL]

set_option maxHeartbeats 1000000 in
theorem padded_w (a : Option Addr) (n n1 c1 : Nat) (cs : List Int) (w : World) (hn : cs.length = n1) (hm : n ≤ 1048576) (hm1 : n1 ≤ 1048576) (hc : CellsAt w a (cs.map (Value.int .u32))) :
    Calls Try.prog 10 #[.slice a n1 c1, .int .i64 n] w fun e w' => e = .returned (.slice (some ⟨w.heap.size, 0, none⟩) n n) ∧ RowAt w' w.heap.size 38 ((padL cs n).map (Value.int .u32)).toArray ∧ Below w.heap.size w w' := by
  have HN : Hid (cs.length = n1) := hn
  have HC : Hid (CellsAt w a (cs.map (Value.int .u32))) := hc
  clear hn hc
  have hmk := run_make_row' (P := Try.prog) 23 38 (.int .u32 0) 4 Try.underlying23 Try.info38 rfl .i64 .i64 n (by omega) (by omega)
  go_enter Try.func10, Try.ntmps10
  go_wp2
  go_loopw [6] (fun i wr => ∃ k : Nat, k ≤ n ∧ k ≤ n1 ∧ i = .int .i64 k ∧ ∃ arr, RowAt wr w.heap.size 38 arr ∧ arr.size = n ∧ (∀ j, j < n → arr[j]? = some (.int .u32 (if j < k then cs.getD j 0 else 0))) ∧ Below w.heap.size w wr) (fun i _ => n - (intOf i).toNat)
  case atStart =>
    refine ⟨0, Nat.zero_le _, Nat.zero_le _, rfl, _, RowAt.new _ _ _, by simp [size_madeCells], fun j hj => ?_, (Below.refl _ _).alloc (Nat.le_refl _) _⟩
    rw [if_neg (by omega), ← Array.getElem?_toList, toList_madeCells_one, List.getElem?_replicate, if_pos hj]
  case round =>
    obtain ⟨k, hk, hk1, rfl, arr, hrow, hsz, hfill, hb⟩ := hrel
    have HR : Hid (RowAt wr w.heap.size 38 arr) := hrow
    have HF : Hid (∀ j, j < n → arr[j]? = some (.int .u32 (if j < k then cs.getD j 0 else 0))) := hfill
    have HZ : Hid (arr.size = n) := hsz
    have HB : Hid (Below w.heap.size w wr) := hb
    clear hrow hfill hsz hb
    have fin : (k = n ∨ k = n1) → Hid (arr = ((padL cs n).map (Value.int .u32)).toArray) := by
      intro hor
      show _ = _
      apply Array.ext_getElem?
      intro j
      by_cases hj : j < n
      · rw [HF.out j hj]
        have : ((padL cs n).map (Value.int .u32))[j]? = some (.int .u32 (cs.getD j 0)) := by simp [padL, hj]
        rw [List.getElem?_toArray, this]
        by_cases hjk : j < k
        · rw [if_pos hjk]
        · rw [if_neg hjk]
          have : cs.getD j 0 = 0 := by
            rw [List.getD_eq_getElem?_getD, List.getElem?_eq_none (by rw [HN.out]; omega)]; rfl
          rw [this]
      · rw [Array.getElem?_eq_none (by rw [HZ.out]; omega), List.getElem?_toArray, List.getElem?_eq_none (by rw [List.length_map, padL_length]; omega)]
    by_cases hlt : k < n
    · by_cases hlt1 : k < n1
      · have hkl : k < (cs.map (Value.int .u32)).length := by rw [List.length_map, HN.out]; exact hlt1
        obtain ⟨b, off, ha, hcell⟩ := HC.out k hkl
        subst ha
        have hcell' := (HB.out.cell (World.block_lt_of_cell? w _ hcell)).trans hcell
        simp only [List.getElem_map] at hcell'
        have hfr := HR.out.frozen k
        have hold := HR.out.cellAt (j := k) (by rw [HZ.out]; exact hlt)
        have HS : Hid (∀ j, j < n → (arr.setIfInBounds k (.int .u32 (cs[k]'(by rw [HN.out]; exact hlt1))))[j]? = some (.int .u32 (if j < k + 1 then cs.getD j 0 else 0))) := by
          intro j hj
          by_cases e : j = k
          · subst e
            rw [if_pos (by omega), List.getD_eq_getElem?_getD, List.getElem?_eq_getElem (by rw [HN.out]; exact hlt1)]
            simp [HZ.out, hj]
          · rw [Array.getElem?_setIfInBounds_ne (by omega), HF.out j hj]
            by_cases h : j < k
            · rw [if_pos h, if_pos (by omega)]
            · rw [if_neg h, if_neg (by omega)]
        have HB2 : Hid (Below w.heap.size w wr) := HB
        have hw4 : IntKind.i64.wrap ((k : Int) + 1) = (k : Int) + 1 := wrap_small _ (by omega) (by omega)
        clear hcell fin
        go_wp2
        go_roundw
        case rel => exact ⟨k + 1, by omega, by omega, by go_num, _, HR.out.set k _, by simp [HZ.out], HS.out, HB.out.setCell (Nat.le_refl _) _⟩
        case measure => simp [intOf]; omega
      · have hf := fin (Or.inr (by omega))
        clear fin
        go_wp2
        go_ret
        refine ⟨rfl, ?_, HB.out⟩
        rw [← hf.out]; exact HR.out
    · have hf := fin (Or.inl (by omega))
      clear fin
      go_wp2
      go_ret
      refine ⟨rfl, ?_, HB.out⟩
      rw [← hf.out]; exact HR.out

set_option maxHeartbeats 1000000 in
theorem below_root (x : ByteArray) (w : World) (hx : lst x ≠ []) :
    Calls Try.prog 21 #[.string (bs []), .string x] w fun e w' => e = .returned (.bool true) ∧ w' = w := by
  have hp0 : x.toList.isEmpty = false := by
    rw [Lib.toList_data]; cases hh : x.data.toList with
    | nil => exact absurd hh hx
    | cons _ _ => rfl
  have hq0 : (bs []).toList.isEmpty = true := by rw [Lib.toList_data]; rfl
  clear hx
  go_enter Try.func21, Try.ntmps21
  go_wp2
  go_ret
  exact ⟨rfl, rfl⟩

set_option maxHeartbeats 1000000 in
theorem below_yes (p x : ByteArray) (w : World) (hp : lst p ≠ []) (hs : x.size ≤ 1048576) (h : ∃ r, lst x = lst p ++ 46 :: r) :
    Calls Try.prog 21 #[.string p, .string x] w fun e w' => e = .returned (.bool true) ∧ w' = w := by
  have hp0 : p.toList.isEmpty = false := by
    rw [Lib.toList_data]; cases hh : p.data.toList with
    | nil => exact absurd hh hp
    | cons _ _ => rfl
  obtain ⟨r, h⟩ := h
  have hlen : x.size = p.size + (r.length + 1) := by
    have := congrArg List.length h; rw [List.length_append, lst_len, lst_len] at this; simpa using this
  have hlt : p.size < x.size := by omega
  have hxp : x[p.size]'hlt = 46 := by
    have := lst_get x p.size hlt
    rw [h] at this
    rw [List.getElem?_append_right (by rw [lst_len]; exact Nat.le_refl _)] at this
    simp [lst_len] at this
    exact this.symm
  have hi : (p.size : Int) < (x.size : Int) := by omega
  have h0 : (0 : Int) ≤ (p.size : Int) := by omega
  have hsl : ∀ w, (Instr.slice 9 (.string x) none (some (.int .i64 p.size)) none).run Try.prog w = .ok (.string p) w := fun w => by
    rw [run_slice_string_h w 9 x Try.underlying9 .i64 p.size h0 (by omega), extract_bs x 0 _ (by simp; omega), h]
    have : (List.take ((p.size : Int)).toNat (lst p ++ 46 :: r)).drop 0 = lst p := by
      rw [List.drop_zero]; exact List.take_left' (by rw [lst_len]; simp)
    rw [this, bs_lst]
  clear h hp hlen
  go_enter Try.func21, Try.ntmps21
  go_wp2
  go_ret
  exact ⟨rfl, rfl⟩

set_option maxHeartbeats 1000000 in
theorem below_no (p x : ByteArray) (w : World) (hp : lst p ≠ []) (hs : x.size ≤ 1048576) (h : ¬ ∃ r, lst x = lst p ++ 46 :: r) :
    Calls Try.prog 21 #[.string p, .string x] w fun e w' => e = .returned (.bool false) ∧ w' = w := by
  have hp0 : p.toList.isEmpty = false := by
    rw [Lib.toList_data]; cases hh : p.data.toList with
    | nil => exact absurd hh hp
    | cons _ _ => rfl
  by_cases hlt : p.size < x.size
  · have hi : (p.size : Int) < (x.size : Int) := by omega
    have h0 : (0 : Int) ≤ (p.size : Int) := by omega
    have hsl : ∀ w, (Instr.slice 9 (.string x) none (some (.int .i64 p.size)) none).run Try.prog w = .ok (.string (x.extract 0 p.size)) w := fun w =>
      run_slice_string_h w 9 x Try.underlying9 .i64 p.size h0 (by omega)
    have hlu : lst (x.extract 0 p.size) = (lst x).take p.size := by rw [extract_bs x 0 _ (by omega), lst_bs, List.drop_zero]
    obtain ⟨y, hy⟩ : ∃ y : UInt8, x[p.size]'hlt = y := ⟨_, rfl⟩
    have gy := lst_get x p.size hlt
    rw [hy] at gy
    generalize x.extract 0 p.size = u at *
    by_cases hup : lst u = lst p
    · have hc : ((u.toList == p.toList)) = true := by rw [Lib.toList_data, Lib.toList_data]; exact beq_iff_eq.2 hup
      have hy46 : ((y.toNat : Int) == 46) = false := by
        apply Bool.eq_false_iff.2
        intro e
        refine h ⟨(lst x).drop (p.size + 1), ?_⟩
        rw [← hup, hlu]
        obtain ⟨h1, e1⟩ := List.getElem?_eq_some_iff.1 gy
        rw [is46 e] at e1
        rw [← e1]
        exact (List.take_append_drop p.size (lst x)).symm.trans (by rw [List.drop_eq_getElem_cons h1])
      clear h hp hlu hup gy
      go_enter Try.func21, Try.ntmps21
      go_wp2
      go_ret
      exact ⟨rfl, rfl⟩
    · have hc : ((u.toList == p.toList)) = false := by rw [Lib.toList_data, Lib.toList_data]; exact beq_eq_false_iff_ne.2 hup
      clear h hp hlu hup gy
      go_enter Try.func21, Try.ntmps21
      go_wp2
      go_ret
      exact ⟨rfl, rfl⟩
  · have hi : ¬ (p.size : Int) < (x.size : Int) := by omega
    clear h hp
    go_enter Try.func21, Try.ntmps21
    go_wp2
    go_ret
    exact ⟨rfl, rfl⟩

set_option maxHeartbeats 1000000 in
theorem own_w (g off : Nat) (c a : Int) (w : World) (hc : w.cell? ⟨g, off + 2, none⟩ = some (.int .u32 c)) (ha : w.cell? ⟨g, off + 4, none⟩ = some (.int .u32 a)) :
    Calls Try.prog 22 #[.pointer (some ⟨g, off, none⟩)] w fun e w' => e = .returned (.int .u32 (if c = 2147483648 then a else c)) ∧ w' = w := by
  by_cases h : c = 2147483648
  · subst h
    go_enter Try.func22, Try.ntmps22
    go_wp2
    go_ret
    exact ⟨rfl, rfl⟩
  · have hb : (c == 2147483648) = false := beq_eq_false_iff_ne.2 h
    rw [if_neg h]
    go_enter Try.func22, Try.ntmps22
    go_wp2
    go_ret
    exact ⟨rfl, rfl⟩

end Go.Proofs.Qxb6600888a
