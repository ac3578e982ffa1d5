import Derived.Test.Qxb6001690aLawS
namespace Go.Proofs.Qxb6001690a
open Go.RowKit
set_option linter.unusedVariables false
set_option linter.unusedSimpArgs false

theorem intsBytes_any (t : Int) (a : Option Addr) (n c : Nat) (w : World) (h0 : 0 ≤ t) (h1 : t ≤ 17825792) (hm : n ≤ maxLen) :
    Calls Try.prog 57 #[.int .i64 t, .slice a n c] w fun e w' => e = .returned (.int .i64 (flatBytes t 8 n)) ∧ w' = w := by
  unfold maxLen at hm
  by_cases ht : 1048576 < t
  · go_enter Try.func57, Try.ntmps57
    go_wp2
    go_ret
    exact ⟨ret_int (by unfold flatBytes; rw [if_pos (.inl ht)]), rfl⟩
  · by_cases hn : 1048576 < (n : Int)
    · go_enter Try.func57, Try.ntmps57
      go_wp2
      go_ret
      exact ⟨ret_int (by unfold flatBytes; rw [if_pos (.inr hn)]), rfl⟩
    · go_enter Try.func57, Try.ntmps57
      go_wp2
      go_ret
      exact ⟨ret_int (by unfold flatBytes; rw [if_neg (by omega)]; simp), rfl⟩

set_option maxHeartbeats 2000000 in
theorem zzBytes56_any (a1 a2 a3 : Option Addr) (n1 n2 n3 c1 c2 c3 : Nat) (ss1 ss2 : List ByteArray) (r f o : Value) (w : World) (hn1 : ss1.length = n1) (hn2 : ss2.length = n2)
    (hm1 : n1 ≤ maxLen) (hm2 : n2 ≤ maxLen) (hm3 : n3 ≤ maxLen) (hs1 : ∀ s ∈ ss1, s.size ≤ maxLen) (hs2 : ∀ s ∈ ss2, s.size ≤ maxLen)
    (hc1 : CellsAt w a1 (ss1.map .string)) (hc2 : CellsAt w a2 (ss2.map .string)) :
    Calls Try.prog 56 #[.slice a1 n1 c1, .slice a2 n2 c2, r, f, .slice a3 n3 c3, o] w fun e w' => RetBool e ∧ w' = w := by
  have HN1 : Hid (ss1.length = n1) := hn1
  have HS1 : Hid (∀ s ∈ ss1, s.size ≤ maxLen) := hs1
  have HC1 : Hid (CellsAt w a1 (ss1.map .string)) := hc1
  clear hn1 hs1 hc1
  have HN2 : Hid (ss2.length = n2) := hn2
  have HS2 : Hid (∀ s ∈ ss2, s.size ≤ maxLen) := hs2
  have HC2 : Hid (CellsAt w a2 (ss2.map .string)) := hc2
  clear hn2 hs2 hc2
  unfold maxLen at hm1 hm2 hm3
  go_enter Try.func56, Try.ntmps56
  by_cases hL1 : 1048576 < (n1 : Int)
  · go_wp2
    go_ret
    exact ⟨RetBool.mk rfl, rfl⟩
  go_wp2
  go_loop [13, 14] (fun t i => ∃ (k : Nat) (z : Int), k ≤ n1 ∧ i = .int .i64 k ∧ t = .int .i64 z ∧ 0 ≤ z ∧ z ≤ 1048576) (fun _ i => n1 - (intOf i).toNat)
  case atStart => exact ⟨0, _, Nat.zero_le _, rfl, rfl, by omega, by omega⟩
  case round =>
    obtain ⟨k1, z1, hk1, rfl, rfl, hz0, hz1⟩ := hrel
    by_cases hlt1 : k1 < n1
    · have hkl : k1 < ss1.length := by rw [HN1.out]; exact hlt1
      obtain ⟨b, off, rfl, hcell⟩ := HC1.out k1 (by simpa using hkl)
      simp only [List.getElem_map] at hcell
      have hsz := HS1.out ss1[k1] (List.getElem_mem hkl)
      unfold maxLen at hsz
      by_cases h1 : 1048576 < (ss1[k1].size : Int)
      · go_wp2
        go_ret
        exact ⟨RetBool.mk rfl, rfl⟩
      by_cases h2 : 1048576 < z1 + (ss1[k1].size : Int)
      · go_wp2
        go_ret
        exact ⟨RetBool.mk rfl, rfl⟩
      go_wp2
      go_round
      case rel => exact ⟨k1 + 1, _, by omega, by go_num, rfl, by omega, by omega⟩
      case measure => simp [intOf]; omega
    · by_cases hL2 : 1048576 < (n2 : Int)
      · go_wp2
        go_ret
        exact ⟨RetBool.mk rfl, rfl⟩
      by_cases hZ2 : 1048576 < z1 + (n2 : Int)
      · go_wp2
        go_ret
        exact ⟨RetBool.mk rfl, rfl⟩
      go_wp2
      go_loop [13, 15] (fun t i => ∃ (k : Nat) (z : Int), k ≤ n2 ∧ i = .int .i64 k ∧ t = .int .i64 z ∧ 0 ≤ z ∧ z ≤ 1048576) (fun _ i => n2 - (intOf i).toNat)
      case atStart => exact ⟨0, _, Nat.zero_le _, rfl, rfl, by omega, by omega⟩
      case round =>
        obtain ⟨k2, z2, hk2, rfl, rfl, hz0, hz1⟩ := hrel
        by_cases hlt2 : k2 < n2
        · have hkl : k2 < ss2.length := by rw [HN2.out]; exact hlt2
          obtain ⟨b, off, rfl, hcell⟩ := HC2.out k2 (by simpa using hkl)
          simp only [List.getElem_map] at hcell
          have hsz := HS2.out ss2[k2] (List.getElem_mem hkl)
          unfold maxLen at hsz
          by_cases h1 : 1048576 < (ss2[k2].size : Int)
          · go_wp2
            go_ret
            exact ⟨RetBool.mk rfl, rfl⟩
          by_cases h2 : 1048576 < z2 + (ss2[k2].size : Int)
          · go_wp2
            go_ret
            exact ⟨RetBool.mk rfl, rfl⟩
          go_wp2
          go_round
          case rel => exact ⟨k2 + 1, _, by omega, by go_num, rfl, by omega, by omega⟩
          case measure => simp [intOf]; omega
        · by_cases hL3 : 1048576 < (n3 : Int)
          · go_wp2
            go_ret
            exact ⟨RetBool.mk rfl, rfl⟩
          by_cases hZ3 : 1048576 < z2 + (n3 : Int)
          · go_wp2
            go_ret
            exact ⟨RetBool.mk rfl, rfl⟩
          go_wp2
          go_ret
          exact ⟨RetBool.mk rfl, rfl⟩

set_option maxHeartbeats 400000 in
theorem cloneInts_any (a : Option Addr) (n c : Nat) (xs : List Int) (w : World) (hn : xs.length = n) (hm : n ≤ 1048576) (ha : a = none → n = 0) (hc : CellsAt w a (xs.map (Value.int .i64))) :
    Calls Try.prog 58 #[.slice a n c] w fun e w' => (∃ a', e = .returned (.slice a' n n) ∧ (a' = none → n = 0) ∧ CellsAt w' a' (xs.map (Value.int .i64))) ∧ Below w.heap.size w w' := by
  have q : ∀ (w : World) (a : Option Addr) (n c n' c' : Nat), (binOp .eql 45 (.slice a n c) (.slice none n' c')).run Try.prog w = .ok (.bool a.isNone) w := fun w a n c n' c' => Lib.run_eql_slice_nil w _ _ a n c n' c' Try.underlying45
  cases a with
  | none =>
    have hn0 := ha rfl
    subst hn0
    have hv : xs = [] := List.eq_nil_of_length_eq_zero hn
    subst hv
    go_enter Try.func58, Try.ntmps58
    go_wp2
    go_ret
    exact ⟨⟨none, rfl, fun k hk => absurd hk (by simp)⟩, Below.refl _ _⟩
  | some a =>
    have HN : Hid (xs.length = n) := hn
    have HC : Hid (CellsAt w (some a) (xs.map (Value.int .i64))) := hc
    clear hn hc ha
    have hmk := run_make_row' (P := Try.prog) 45 3 (.int .i64 0) 8 Try.underlying45 Try.info3 rfl .i64 .i64 n (by omega) (by omega)
    go_enter Try.func58, Try.ntmps58
    go_wp2
    go_loopw [4] (fun i wr => ∃ k : Nat, k ≤ n ∧ i = .int .i64 k ∧ ∃ arr, RowAt wr w.heap.size 3 arr ∧ arr.size = n ∧ (∀ j (hj : j < (xs.map (Value.int .i64)).length), j < k → arr[j]? = some (xs.map (Value.int .i64))[j]) ∧ Below w.heap.size w wr) (fun i _ => n - (intOf i).toNat)
    case atStart => exact ⟨0, Nat.zero_le _, rfl, _, RowAt.new _ _ _, by simp [size_madeCells], fun j _ h => absurd h (by omega), (Below.refl _ _).alloc (Nat.le_refl _) _⟩
    case round =>
      obtain ⟨k, hk, rfl, arr, hrow, hsz, hfill, hb⟩ := hrel
      have HR : Hid (RowAt wr w.heap.size 3 arr) := hrow
      have HF : Hid (∀ j (hj : j < (xs.map (Value.int .i64)).length), j < k → arr[j]? = some (xs.map (Value.int .i64))[j]) := hfill
      have HZ : Hid (arr.size = n) := hsz
      have HB : Hid (Below w.heap.size w wr) := hb
      clear hrow hfill hsz hb
      by_cases hlt : k < n
      · have hkl : k < (xs.map (Value.int .i64)).length := by rw [List.length_map, HN.out]; exact hlt
        have HS : Hid _ := filled_succ hkl (by rw [HZ.out, List.length_map, HN.out]) HF.out
        obtain ⟨b, off, ha, hcell⟩ := HC.out k hkl
        obtain rfl : a = ⟨b, off, none⟩ := by simpa using ha
        have hcell' := (HB.out.cell (World.block_lt_of_cell? w _ hcell)).trans hcell
        simp only [List.getElem_map] at hcell' HS
        have hfr := HR.out.frozen k
        have hold := HR.out.cellAt (j := k) (by rw [HZ.out]; exact hlt)
        clear hcell
        go_wp2
        go_roundw
        case rel => exact ⟨k + 1, by omega, by go_num, _, HR.out.set k _, by simp [HZ.out], by simpa using HS.out, HB.out.setCell (Nat.le_refl _) _⟩
        case measure => simp [intOf]; omega
      · go_wp2
        go_ret
        have e : arr = (xs.map (Value.int .i64)).toArray := filled_all (by rw [HZ.out, List.length_map, HN.out]) fun j hj _ => HF.out j hj (by rw [List.length_map, HN.out] at hj; omega)
        refine ⟨⟨_, rfl, fun h => by simp at h, ?_⟩, HB.out⟩
        have := HR.out.cells
        rw [e] at this
        simpa using this


/-- The cells of a row of fields. -/
def fieldCells : List (ByteArray × ByteArray) → List Value
  | [] => []
  | (a, b) :: l => .string a :: .string b :: fieldCells l
theorem fieldCells_length (l : List (ByteArray × ByteArray)) : (fieldCells l).length = l.length * 2 := by
  induction l with
  | nil => rfl
  | cons x l ih => simp [fieldCells, ih]; omega
theorem fieldCells_0 (l : List (ByteArray × ByteArray)) (k : Nat) (hk : k < l.length) : (fieldCells l)[k * 2]? = some (.string l[k].1) := by
  induction l generalizing k with
  | nil => simp at hk
  | cons x l ih =>
    cases k with
    | zero => rfl
    | succ k =>
      have e : (k + 1) * 2 = k * 2 + 1 + 1 := by omega
      rw [e]
      simpa [fieldCells] using ih k (by simpa using hk)
theorem fieldCells_1 (l : List (ByteArray × ByteArray)) (k : Nat) (hk : k < l.length) : (fieldCells l)[k * 2 + 1]? = some (.string l[k].2) := by
  induction l generalizing k with
  | nil => simp at hk
  | cons x l ih =>
    cases k with
    | zero => rfl
    | succ k =>
      have e : (k + 1) * 2 + 1 = k * 2 + 1 + 1 + 1 := by omega
      rw [e]
      simpa [fieldCells] using ih k (by simpa using hk)
/-- The first k fields stand in the row. -/
def Filled (arr : Array Value) (l : List (ByteArray × ByteArray)) (k : Nat) : Prop :=
  ∀ j (hj : j < l.length), j < k → arr[j * 2]? = some (.string l[j].1) ∧ arr[j * 2 + 1]? = some (.string l[j].2)
theorem Filled.all {arr : Array Value} {l : List (ByteArray × ByteArray)} (h : Filled arr l l.length) (hs : arr.size = l.length * 2) : arr = (fieldCells l).toArray := by
  apply Array.ext'
  apply List.ext_getElem?
  intro i
  by_cases hi : i < l.length * 2
  · obtain ⟨k, hk | hk⟩ : ∃ k, i = k * 2 ∨ i = k * 2 + 1 := ⟨i / 2, by omega⟩
    · subst hk
      have := (h k (by omega) (by omega)).1
      simpa [fieldCells_0 l k (by omega)] using this
    · subst hk
      have := (h k (by omega) (by omega)).2
      simpa [fieldCells_1 l k (by omega)] using this
  · rw [List.getElem?_eq_none (by simp; omega), List.getElem?_eq_none (by simp [fieldCells_length]; omega)]
theorem Filled.set {arr : Array Value} {l : List (ByteArray × ByteArray)} {k m : Nat} (h : Filled arr l k) (hk : k < l.length) (hs : arr.size = m * 2) (hm : l.length ≤ m) :
    Filled ((arr.setIfInBounds (k * 2) (.string l[k].1)).setIfInBounds (k * 2 + 1) (.string l[k].2)) l (k + 1) := by
  intro j hj hjk
  by_cases e : j = k
  · subst e
    refine ⟨?_, ?_⟩
    · rw [Array.getElem?_setIfInBounds_ne (by omega), Array.getElem?_setIfInBounds_self_of_lt (by omega)]
    · rw [Array.getElem?_setIfInBounds_self_of_lt (by simp; omega)]
  · have := h j hj (by omega)
    refine ⟨?_, ?_⟩
    · rw [Array.getElem?_setIfInBounds_ne (by omega), Array.getElem?_setIfInBounds_ne (by omega)]; exact this.1
    · rw [Array.getElem?_setIfInBounds_ne (by omega), Array.getElem?_setIfInBounds_ne (by omega)]; exact this.2

set_option maxHeartbeats 1000000 in
theorem zzFields_any (a1 a2 : Option Addr) (n c1 c2 : Nat) (ss1 ss2 : List ByteArray) (w : World) (hn1 : ss1.length = n) (hn2 : ss2.length = n) (hm : n ≤ 1048576) (hc1 : CellsAt w a1 (ss1.map .string)) (hc2 : CellsAt w a2 (ss2.map .string)) :
    Calls Try.prog 41 #[.slice a1 n c1, .slice a2 n c2] w fun e w' => (∃ g, e = .returned (.slice (some ⟨g, 0, none⟩) n n) ∧ RowAt w' g 57 (fieldCells (ss1.zip ss2)).toArray ∧ w.heap.size ≤ g) ∧ Below w.heap.size w w' := by
  have hmk := run_make_any (P := Try.prog) 53 57 _ 2 32 (by exact Try.underlying53) Try.info57 .i64 .i64 n (by omega) (by omega)
  replace hn1 := hid hn1
  replace hn2 := hid hn2
  replace hc1 := hid hc1
  replace hc2 := hid hc2
  have hZ : Hid ((ss1.zip ss2).length = n) := by show (ss1.zip ss2).length = n; rw [List.length_zip, hn1.out, hn2.out]; omega
  go_enter Try.func41, Try.ntmps41
  go_wp2
  clear hmk
  go_loopw [6] (fun i wr => ∃ k : Nat, k ≤ n ∧ i = .int .i64 k ∧ (∃ arr, RowAt wr w.heap.size 57 arr ∧ arr.size = n * 2 ∧ Filled arr (ss1.zip ss2) k) ∧ Below w.heap.size w wr) (fun i _ => n - (intOf i).toNat)
  case atStart => exact ⟨0, Nat.zero_le _, rfl, ⟨_, RowAt.new _ _ _, size_madeCells _ _, fun j _ h => absurd h (by omega)⟩, (Below.refl _ _).alloc (Nat.le_refl _) _⟩
  case round =>
    obtain ⟨k, hk, rfl, ⟨arr, hrow, hsz, hfil⟩, hb⟩ := hrel
    by_cases hlt : k < n
    · have hkl1 : k < ss1.length := by rw [hn1.out]; exact hlt
      have hkl2 : k < ss2.length := by rw [hn2.out]; exact hlt
      obtain ⟨b1, o1, rfl, hx1⟩ := hc1.out k (by simpa using hkl1)
      obtain ⟨b2, o2, rfl, hx2⟩ := hc2.out k (by simpa using hkl2)
      simp only [List.getElem_map] at hx1 hx2
      replace hx1 := cell_later hb hx1
      replace hx2 := cell_later hb hx2
      have hf0 := hrow.frozen (k * 2)
      have hf1 := hrow.frozen (k * 2 + 1)
      obtain ⟨v0, hv0⟩ := hrow.cellEx (j := k * 2) (by omega)
      obtain ⟨v1, hv1⟩ := hrow.cellEx (j := k * 2 + 1) (by omega)
      replace hfil := hid (hfil.set (k := k) (m := n) (by rw [hZ.out]; exact hlt) hsz (by rw [hZ.out]; exact Nat.le_refl _))
      replace hrow := hid hrow
      replace hb := hid hb
      replace hsz := hid hsz
      have hlti : (k : Int) < (n : Int) := by omega
      go_wp2
      go_region
      go_wp2
      go_roundw
      case rel => exact ⟨k + 1, by omega, by go_num, ⟨_, (hrow.out.set _ _).set _ _, by simpa using hsz.out, by simpa using hfil.out⟩, ((hb.out.setCell (p := ⟨w.heap.size, k * 2, none⟩) (Nat.le_refl _) _).setCell (p := ⟨w.heap.size, k * 2 + 1, none⟩) (Nat.le_refl _) _).drew⟩
      case measure => simp [intOf]; omega
    have hkn : k = n := by omega
    subst hkn
    have e := Filled.all (by rw [hZ.out]; exact hfil) (by rw [hZ.out]; exact hsz)
    subst e
    replace hrow := hid hrow
    replace hb := hid hb
    clear hfil hsz
    go_wp2
    go_ret
    exact ⟨⟨_, rfl, hrow.out, Nat.le_refl _⟩, hb.out⟩

theorem newStanza_any (F : Value) (a : Option Addr) (n c : Nat) (r : Int) (l : ByteArray) (hF : F = .slice a n c) (w : World) :
    Calls Try.prog 40 #[F, .int .u8 r, .string l] w fun e w' => (∃ p, e = .returned (.pointer (some ⟨p, 0, none⟩)) ∧ RowAt w' p 65 (stanzaCells F r l) ∧ p = w.heap.size) ∧ Below w.heap.size w w' := by
  subst hF
  go_enter Try.func40, Try.ntmps40
  go_wp2
  go_ret
  exact ⟨⟨_, rfl, RowAt.new _ _ _, rfl⟩, (Below.refl _ _).alloc (Nat.le_refl _) _⟩

end Go.Proofs.Qxb6001690a
