import Derived.Test.Qxb6001690aBuf
namespace Go.Proofs.Qxb6001690a
open Go.RowKit
set_option linter.unusedVariables false
set_option linter.unusedSimpArgs false

theorem hid {p : Prop} (h : p) : Hid p := h

/-! The text of the field lines: no Go in sight. -/
def escB (u e : Bool) (nm : ByteArray) : Bool := !u && (e || (nm.data.toList.head? == some 45))
def piece (u e : Bool) (nm v : ByteArray) : List UInt8 := (if escB u e nm then [45, 32] else []) ++ (nm.data.toList ++ ([58] ++ (v.data.toList ++ [10])))

theorem escB_zero {nm : ByteArray} (h : nm.size = 0) : escB false false nm = false := by
  have : nm.data.toList = [] := List.eq_nil_of_length_eq_zero (by simpa using h)
  simp [escB, this]
theorem escB_pos {nm : ByteArray} (h : 0 < nm.size) : escB false false nm = decide ((nm[0].toNat : Int) = 45) := by
  have h1 : nm.data.toList.head? = some nm[0] := by
    rw [List.head?_eq_getElem?, List.getElem?_eq_getElem (by simpa using h)]
    simp; rfl
  simp only [escB, h1, Bool.not_false, Bool.true_and, Bool.false_or]
  by_cases e : nm[0] = 45
  · simp [e]
  · have e2 : ¬ ((nm[0].toNat : Int) = 45) := by
      intro h2
      apply e
      apply UInt8.toNat_inj.1
      show nm[0].toNat = 45
      omega
    simp [e, e2]

section
variable (u : Bool) (es : List Bool) (nms vs : List ByteArray)
def pieceAt (j : Nat) : List UInt8 := piece u (es.getD j false) (nms.getD j ⟨#[]⟩) (vs.getD j ⟨#[]⟩)
def upTo : Nat → List UInt8
  | 0 => []
  | k + 1 => upTo k ++ pieceAt u es nms vs k
theorem upTo_more {j n : Nat} (h : j ≤ n) : ∃ rest, upTo u es nms vs n = upTo u es nms vs j ++ rest := by
  induction n with
  | zero => exact ⟨[], by rw [show j = 0 by omega]; simp⟩
  | succ n ih =>
    by_cases e : j = n + 1
    · subst e; exact ⟨[], by simp⟩
    · obtain ⟨r, hr⟩ := ih (by omega)
      exact ⟨r ++ pieceAt u es nms vs n, by rw [upTo, hr, List.append_assoc]⟩
theorem upTo_extract {j n : Nat} (h : j < n) : (⟨(upTo u es nms vs n).toArray⟩ : ByteArray).extract (upTo u es nms vs j).length (upTo u es nms vs (j + 1)).length = ⟨(pieceAt u es nms vs j).toArray⟩ := by
  obtain ⟨r, hr⟩ := upTo_more u es nms vs (show j + 1 ≤ n from h)
  apply ByteArray.ext
  apply Array.toList_inj.1
  rw [Lib.extract_data, hr]
  simp [upTo]
theorem upTo_le {j n : Nat} (h : j ≤ n) : (upTo u es nms vs j).length ≤ (upTo u es nms vs n).length := by
  obtain ⟨r, hr⟩ := upTo_more u es nms vs h
  rw [hr]; simp
end

theorem piece_length (u e : Bool) (nm v : ByteArray) : (piece u e nm v).length ≤ nm.size + v.size + 4 := by
  have h1 : nm.data.toList.length = nm.size := by simp
  have h2 : v.data.toList.length = v.size := by simp
  unfold piece
  split <;> simp only [List.length_append, List.length_cons, List.length_nil, h1, h2] <;> omega

theorem total_append (a b : List ByteArray) : total (a ++ b) = total a + total b := by
  unfold total; rw [List.map_append, List.sum_append]
theorem total_snoc (ss : List ByteArray) (k : Nat) (h : k < ss.length) : total (ss.take (k + 1)) = total (ss.take k) + ss[k].size := by
  rw [List.take_succ_eq_append_getElem h, total_append, total_cons]; simp [total]

theorem upTo_length (u : Bool) (es : List Bool) (nms vs : List ByteArray) (hl : nms.length = vs.length) : (upTo u es nms vs nms.length).length ≤ 4 * nms.length + total nms + total vs := by
  have key : ∀ k, k ≤ nms.length → (upTo u es nms vs k).length ≤ 4 * k + total (nms.take k) + total (vs.take k) := by
    intro k
    induction k with
    | zero => intro _; simp [upTo]
    | succ k ih =>
      intro hk
      have h := ih (by omega)
      have hp := piece_length u (es.getD k false) (nms.getD k ⟨#[]⟩) (vs.getD k ⟨#[]⟩)
      have e1 : nms.getD k ⟨#[]⟩ = nms[k] := by simp [List.getD, List.getElem?_eq_getElem (show k < nms.length by omega)]
      have e2 : vs.getD k ⟨#[]⟩ = vs[k] := by simp [List.getD, List.getElem?_eq_getElem (show k < vs.length by omega)]
      have t1 : total (nms.take (k + 1)) = total (nms.take k) + nms[k].size := total_snoc _ _ (by omega)
      have t2 : total (vs.take (k + 1)) = total (vs.take k) + vs[k].size := total_snoc _ _ (by omega)
      rw [e1, e2] at hp
      rw [upTo, List.length_append, t1, t2, pieceAt, e1, e2]
      omega
  have := key nms.length (Nat.le_refl _)
  have e : vs.take nms.length = vs := by rw [hl, List.take_length]
  rwa [List.take_length, e] at this

theorem indexByte_at {l rest : List UInt8} {c : UInt8} (h : c ∉ l) : Lib.indexByte (l ++ c :: rest) c = l.length := by
  induction l with
  | nil => simp [Lib.indexByte]
  | cons b l ih =>
    have hb : (b == c) = false := by
      simp at h ⊢; intro e; exact h.1 e.symm
    have := ih (fun hm => h (List.mem_cons_of_mem _ hm))
    simp only [List.cons_append, Lib.indexByte, hb, this]
    have hne : (((l.length : Int)) == -1) = false := by simp
    simp [hne]

theorem not_has {s : ByteArray} (h : hasB s 58 = false) : (58 : UInt8) ∉ s.data.toList := by
  intro hm
  unfold hasB at h
  have := List.any_eq_false.1 h 58 hm
  simp at this

theorem spelt_core {nm : ByteArray} {rest : List UInt8} (h : hasB nm 58 = false) (X : ByteArray) (hX : X.data.toList = nm.data.toList ++ 58 :: rest) :
    Lib.indexByte X.data.toList 58 = (nm.size : Int) ∧ nm.size ≤ X.size ∧ X.extract 0 nm.size = nm := by
  have hl : nm.data.toList.length = nm.size := by simp
  refine ⟨?_, ?_, ?_⟩
  · rw [hX, indexByte_at (not_has h), hl]
  · have : X.data.toList.length = X.size := by simp
    rw [← this, hX, List.length_append, hl]; omega
  · apply ByteArray.ext
    apply Array.toList_inj.1
    rw [Lib.extract_data, hX]
    simp only [List.drop_zero, Nat.sub_zero, ← hl, List.take_left]

theorem spelt_piece (u e : Bool) (nm v : ByteArray) (h : hasB nm 58 = false) : SpeltOK u ⟨(piece u e nm v).toArray⟩ nm := by
  unfold SpeltOK
  refine spelt_core (rest := v.data.toList ++ [10]) h _ ?_
  cases u with
  | true => simp [unescaped, piece, escB]
  | false =>
    by_cases hE : escB false e nm = true
    · have hp : piece false e nm v = 45 :: 32 :: (nm.data.toList ++ 58 :: (v.data.toList ++ [10])) := by simp [piece, hE]
      simp [unescaped, hp, Lib.trimPrefix, Lib.hasPrefix]
    · have hp : piece false e nm v = nm.data.toList ++ 58 :: (v.data.toList ++ [10]) := by simp [piece, hE]
      have hh : nm.data.toList.head? ≠ some 45 := by
        intro hh
        simp [escB, hh] at hE
      have hpre : Lib.hasPrefix (nm.data.toList ++ 58 :: (v.data.toList ++ [10])) [45, 32] = false := by
        unfold Lib.hasPrefix
        cases hn : nm.data.toList with
        | nil => simp [List.isPrefixOf]
        | cons b l =>
          rw [hn] at hh
          have : ((45 : UInt8) == b) = false := by
            simp at hh ⊢; intro e; exact hh e.symm
          simp [List.isPrefixOf, this]
      simp [unescaped, hp, Lib.trimPrefix, hpre]


theorem two_new {w : World} {g : Nat} (hg : g = w.heap.size) (a b : Value) (t : TypeId) : ∀ j u, [a, b][j]? = some u → (w.alloc (.cells #[a, b] t)).cell? ((⟨g, 0, none⟩ : Addr).add j) = some u := by
  subst hg; exact cell_two_new w a b t
theorem one_new {w : World} {g : Nat} (hg : g = w.heap.size) (a : Value) (t : TypeId) : ∀ j u, [a][j]? = some u → (w.alloc (.cells #[a] t)).cell? ((⟨g, 0, none⟩ : Addr).add j) = some u := by
  subst hg; exact cell_one_new w a t

/-- What holds at the head of the loop that writes the lines. -/
structure Lines (u : Bool) (es : List Bool) (nms vs : List ByteArray) (n : Nat) (w3 wr : World) (k : Nat) (p : Option Addr) (c : Nat) (sarr earr : Array Value) : Prop where
  buf : BufAt wr (w3.heap.size + 2) p c (upTo u es nms vs k)
  rs : RowAt wr w3.heap.size 3 sarr
  re : RowAt wr (w3.heap.size + 1) 3 earr
  ss : sarr.size = n
  se : earr.size = n
  st : ∀ j, j < k → sarr[j]? = some (.int .i64 ((upTo u es nms vs j).length : Int))
  en : ∀ j, j < k → earr[j]? = some (.int .i64 ((upTo u es nms vs (j + 1)).length : Int))
  old : Below w3.heap.size w3 wr

theorem Lines.start (u : Bool) (es : List Bool) (nms vs : List ByteArray) (n : Nat) (w3 : World) :
    Lines u es nms vs n w3 ((w3.alloc (.cells (madeCells #[Value.int IntKind.i64 0] n) 3)).alloc (.cells (madeCells #[Value.int IntKind.i64 0] n) 3)) 0 none 0 (madeCells #[Value.int IntKind.i64 0] n) (madeCells #[Value.int IntKind.i64 0] n) := by
  have hz : (w3.alloc (.cells (madeCells #[Value.int IntKind.i64 0] n) 3)).heap.size = w3.heap.size + 1 := by simp
  refine ⟨BufAt.nil _ _ (by simp), ?_, ?_, size_madeCells _ _, size_madeCells _ _, fun j h => absurd h (by omega), fun j h => absurd h (by omega), ?_⟩
  · exact (RowAt.new _ _ _).below ((Below.refl _ _).alloc (Nat.le_refl _) _) (by omega)
  · have := RowAt.new (w3.alloc (.cells (madeCells #[Value.int IntKind.i64 0] n) 3)) 3 (madeCells #[Value.int IntKind.i64 0] n)
    rw [hz] at this
    exact this
  · exact ((Below.refl _ _).alloc (Nat.le_refl _) _).alloc (by omega) _

/-- One line further: the start is stored, the buffer grows, the end is stored. -/
theorem Lines.next {u : Bool} {es : List Bool} {nms vs : List ByteArray} {n : Nat} {w3 wr wx : World} {k : Nat} {p p' : Option Addr} {c c' : Nat} {sarr earr : Array Value} (h : Lines u es nms vs n w3 wr k p c sarr earr) (hk : k < n) {x y : Int}
    (hx : x = (upTo u es nms vs k).length) (hy : y = (upTo u es nms vs (k + 1)).length)
    (hb : Below (w3.heap.size + 2) (wr.setCell ⟨w3.heap.size, k, none⟩ (.int .i64 x)) wx) (hbuf : BufAt wx (w3.heap.size + 2) p' c' (upTo u es nms vs (k + 1))) :
    Lines u es nms vs n w3 (wx.setCell ⟨w3.heap.size + 1, k, none⟩ (.int .i64 y)) (k + 1) p' c' (sarr.setIfInBounds k (.int .i64 x)) (earr.setIfInBounds k (.int .i64 y)) := by
  subst hx hy
  refine ⟨hbuf.setBelow (by show w3.heap.size + 1 < _; omega) _, ?_, ?_, by simp [h.ss], by simp [h.se], ?_, ?_, ?_⟩
  · exact ((h.rs.set _ _).below hb (by omega)).setOther (by omega) _ _
  · exact ((h.re.setOther (by omega) _ _).below hb (by omega)).set _ _
  · intro j hj
    by_cases e : j = k
    · subst e; rw [Array.getElem?_setIfInBounds_self_of_lt (by rw [h.ss]; exact hk)]
    · rw [Array.getElem?_setIfInBounds_ne (by omega)]; exact h.st j (by omega)
  · intro j hj
    by_cases e : j = k
    · subst e; rw [Array.getElem?_setIfInBounds_self_of_lt (by rw [h.se]; exact hk)]
    · rw [Array.getElem?_setIfInBounds_ne (by omega)]; exact h.en j (by omega)
  · exact (((h.old.setCell (p := ⟨w3.heap.size, k, none⟩) (Nat.le_refl _) _).trans (hb.mono (by omega)))).setCell (p := ⟨w3.heap.size + 1, k, none⟩) (by show w3.heap.size ≤ w3.heap.size + 1; omega) _


theorem zzField_build (p g n : Nat) (u : Bool) (r : Int) (text : ByteArray) (sarr : Array Value) (S E : Nat → Nat) (names : List ByteArray) (name : ByteArray) (w : World)
    (hn : names.length = n) (hm : n ≤ 1048576) (hs : ∀ s ∈ names, s.size ≤ maxLen) (hname : name.size ≤ maxLen) (htext : text.size ≤ maxLen)
    (hp : RowAt w p 119 (textCells u r text (.slice (some ⟨g, 0, none⟩) n n) (.slice none 0 0))) (hg : RowAt w g 114 sarr) (hgp : g < p)
    (hsp : ∀ j, j < n → sarr[j * 2]? = some (.int .i64 (S j : Int)) ∧ sarr[j * 2 + 1]? = some (.int .i64 (E j : Int)) ∧ S j ≤ E j ∧ E j ≤ text.size)
    (hl : ∀ j (hj : j < names.length), SpeltOK u (text.extract (S j) (E j)) names[j]) :
    Calls Try.prog 35 #[.pointer (some ⟨p, 0, none⟩), .string name] w fun e w' => e = .returned (.int .i64 (firstIdx r names name)) ∧ Below p w w' ∧
      ∃ f farr, RowAt w' p 119 (textCells u r text (.slice (some ⟨g, 0, none⟩) n n) (.slice (some ⟨f, 0, none⟩) n n)) ∧ RowAt w' f 155 farr ∧ FieldsIn farr n n names := by
  have K : Hid _ := field_build p g n u r text sarr S E names name w hn hm hs hname htext hp hg hgp hsp hl
  clear hn hm hs hname htext hp hg hgp hsp hl
  go_enter Try.func35, Try.ntmps35
  go_wp2_with (go_at_call 83; refine Calls.mono K.out ?_; rintro e w' ⟨rfl, hb, hf⟩; replace hb := hid hb; replace hf := hid hf)
  go_ret
  exact ⟨rfl, hb.out, hf.out⟩
theorem zzField_search (p f n : Nat) (u : Bool) (r : Int) (text : ByteArray) (spans : Value) (farr : Array Value) (names : List ByteArray) (name : ByteArray) (w : World)
    (hn : names.length = n) (hm : n ≤ 1048576) (hs : ∀ s ∈ names, s.size ≤ maxLen) (hname : name.size ≤ maxLen)
    (hp : RowAt w p 119 (textCells u r text spans (.slice (some ⟨f, 0, none⟩) n n))) (hf : RowAt w f 155 farr) (hF : FieldsIn farr n n names) :
    Calls Try.prog 35 #[.pointer (some ⟨p, 0, none⟩), .string name] w fun e w' => e = .returned (.int .i64 (firstIdx r names name)) ∧ Below w.heap.size w w' := by
  have K : Hid _ := field_search p f n u r text spans farr names name w hn hm hs hname hp hf hF
  clear hn hm hs hname hp hf hF
  go_enter Try.func35, Try.ntmps35
  go_wp2_with (go_at_call 83; refine Calls.mono K.out ?_; rintro e w' ⟨rfl, hb⟩; replace hb := hid hb)
  go_ret
  exact ⟨rfl, hb.out⟩

/-- Asked by a field's own name: that one or an earlier one of the same name. -/
theorem firstIdx_own {r : Int} {names : List ByteArray} {k : Nat} (hk : k < names.length) :
    ∃ i : Nat, ∃ (hi : i < names.length), i ≤ k ∧ firstIdx r names names[k] = i ∧ sameB r names[i] names[k] = true ∧ ∀ j (hj : j < names.length), j < i → sameB r names[j] names[k] = false := by
  cases h : names.findIdx? (fun x => sameB r x names[k]) with
  | none =>
    rw [List.findIdx?_eq_none_iff] at h
    have := h names[k] (List.getElem_mem hk)
    rw [sameB_refl] at this
    exact absurd this (by simp)
  | some i =>
    rw [List.findIdx?_eq_some_iff_getElem] at h
    obtain ⟨hi, hy, hno⟩ := h
    have hno' : ∀ j (hj : j < names.length), j < i → sameB r names[j] names[k] = false := fun j hj hji => by have := hno j hji; simpa using this
    have hik : i ≤ k := by
      by_cases h' : i ≤ k
      · exact h'
      · have := hno' k hk (by omega)
        rw [sameB_refl] at this
        exact absurd this (by simp)
    exact ⟨i, hi, hik, firstIdx_hit hi hy hno', hy, hno'⟩

theorem cells_of_ints {w : World} {g n : Nat} {arr : Array Value} {e : TypeId} (h : RowAt w g e arr) (F : Nat → Nat) (hF : ∀ j, j < n → arr[j]? = some (.int .i64 (F j : Int))) :
    CellsAt w (some ⟨g, 0, none⟩) (((List.range n).map fun j => (F j : Int)).map (.int .i64)) := by
  intro k hk
  simp at hk
  refine ⟨g, 0, rfl, ?_⟩
  rw [h.cell, Nat.zero_add, hF k hk]
  simp

end Go.Proofs.Qxb6001690a
