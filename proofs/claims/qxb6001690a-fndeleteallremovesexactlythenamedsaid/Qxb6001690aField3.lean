import Derived.Test.Qxb6001690aField2
namespace Go.Proofs.Qxb6001690a
open Go.RowKit
set_option linter.unusedVariables false
set_option linter.unusedSimpArgs false

theorem fin_later {w w' : World} {p n : Nat} {u : Bool} {r : Int} {text : ByteArray} {spans : Value} {names : List ByteArray} (hb : Below w.heap.size w w')
    (h : ∃ f farr, RowAt w p 119 (textCells u r text spans (.slice (some ⟨f, 0, none⟩) n n)) ∧ RowAt w f 155 farr ∧ FieldsIn farr n n names) :
    ∃ f farr, RowAt w' p 119 (textCells u r text spans (.slice (some ⟨f, 0, none⟩) n n)) ∧ RowAt w' f 155 farr ∧ FieldsIn farr n n names := by
  obtain ⟨f, farr, h1, h2, h3⟩ := h
  exact ⟨f, farr, h1.below hb h1.lt, h2.below hb h2.lt, h3⟩

set_option maxRecDepth 100000 in
set_option maxHeartbeats 2000000 in
theorem field_build (p g n : Nat) (u : Bool) (r : Int) (text : ByteArray) (sarr : Array Value) (S E : Nat → Nat) (names : List ByteArray) (name : ByteArray) (w : World)
    (hn : names.length = n) (hm : n ≤ 1048576) (hs : ∀ s ∈ names, s.size ≤ maxLen) (hname : name.size ≤ maxLen) (htext : text.size ≤ maxLen)
    (hp : RowAt w p 119 (textCells u r text (.slice (some ⟨g, 0, none⟩) n n) (.slice none 0 0))) (hg : RowAt w g 114 sarr) (hgp : g < p)
    (hsp : ∀ j, j < n → sarr[j * 2]? = some (.int .i64 (S j : Int)) ∧ sarr[j * 2 + 1]? = some (.int .i64 (E j : Int)) ∧ S j ≤ E j ∧ E j ≤ text.size)
    (hl : ∀ j (hj : j < names.length), SpeltOK u (text.extract (S j) (E j)) names[j]) :
    Calls Try.prog 83 #[.pointer (some ⟨p, 0, none⟩), .string name] w fun e w' => e = .returned (.int .i64 (firstIdx r names name)) ∧ Below p w w' ∧
      ∃ f farr, RowAt w' p 119 (textCells u r text (.slice (some ⟨g, 0, none⟩) n n) (.slice (some ⟨f, 0, none⟩) n n)) ∧ RowAt w' f 155 farr ∧ FieldsIn farr n n names := by
  have q : ∀ (w : World) (a : Option Addr) (n c n' c' : Nat), (binOp .eql 117 (.slice a n c) (.slice none n' c')).run Try.prog w = .ok (.bool a.isNone) w := fun w a n c n' c' => Lib.run_eql_slice_nil w _ _ a n c n' c' Try.underlying117
  have hmk := run_make_any (P := Try.prog) 117 155 _ 6 56 Try.underlying117 Try.info155 .i64 .i64 n (by omega) (by omega)
  have HN : Hid (names.length = n) := hn
  have HS : Hid (∀ s ∈ names, s.size ≤ maxLen) := hs
  have HP : Hid (RowAt w p 119 (textCells u r text (.slice (some ⟨g, 0, none⟩) n n) (.slice none 0 0))) := hp
  have HG : Hid (RowAt w g 114 sarr) := hg
  have HSP : Hid (∀ j, j < n → sarr[j * 2]? = some (.int .i64 (S j : Int)) ∧ sarr[j * 2 + 1]? = some (.int .i64 (E j : Int)) ∧ S j ≤ E j ∧ E j ≤ text.size) := hsp
  have HL : Hid (∀ j (hj : j < names.length), SpeltOK u (text.extract (S j) (E j)) names[j]) := hl
  clear hn hs hg hsp hl
  have hplt := hp.lt
  have hp14 : w.cell? ⟨p, 14, none⟩ = some (.slice none 0 0) := hp.cell 14
  have hp13 : w.cell? ⟨p, 13, none⟩ = some (.slice (some ⟨g, 0, none⟩) n n) := hp.cell 13
  have hpf : w.frozen? ⟨p, 14, none⟩ = false := hp.frozen 14
  clear hp
  go_enter Try.func83, Try.ntmps83
  go_wp2
  go_loopw [30] (fun i wr => ∃ k : Nat, k ≤ n ∧ i = .int .i64 k ∧ Below p w wr ∧ ∃ farr, RowAt wr p 119 (textCells u r text (.slice (some ⟨g, 0, none⟩) n n) (.slice (some ⟨w.heap.size, 0, none⟩) n n)) ∧ RowAt wr w.heap.size 155 farr ∧ FieldsIn farr n k names) (fun i _ => n - (intOf i).toNat)
  case atStart =>
    have hz : (w.setCell { block := p, off := 14 } (Value.slice (some { block := w.heap.size, off := 0 }) n n)).heap.size = w.heap.size := by simp
    refine ⟨0, Nat.zero_le _, rfl, ((Below.refl _ _).setCell (p := ⟨p, 14, none⟩) (Nat.le_refl _) _).alloc (by show p ≤ _; rw [hz]; omega) _, (madeCells #[Value.string { data := #[] }, Value.int IntKind.i64 0, Value.int IntKind.i64 0, Value.string { data := #[] }, Value.bool false, Value.bool false] (n * 6)), ?_, ?_, ⟨size_madeCells _ _, fun j _ h => absurd h (by omega)⟩⟩
    · exact (HP.out.set 14 _).below ((Below.refl _ _).alloc (Nat.le_refl _) _) (by rw [hz]; exact hplt)
    · have := RowAt.new (w.setCell { block := p, off := 14 } (Value.slice (some { block := w.heap.size, off := 0 }) n n)) 155 (madeCells #[Value.string { data := #[] }, Value.int IntKind.i64 0, Value.int IntKind.i64 0, Value.string { data := #[] }, Value.bool false, Value.bool false] (n * 6))
      rw [hz] at this
      exact this
  case round =>
    obtain ⟨k, hk, rfl, hb, farr, hrp, hrf, hff⟩ := hrel
    have HB : Hid (Below p w wr) := hb
    have HRP : Hid (RowAt wr p 119 (textCells u r text (.slice (some ⟨g, 0, none⟩) n n) (.slice (some ⟨w.heap.size, 0, none⟩) n n))) := hrp
    have HRF : Hid (RowAt wr w.heap.size 155 farr) := hrf
    have HFF : Hid (FieldsIn farr n k names) := hff
    clear hb hrp hrf hff hp14 hp13 hpf
    by_cases hlt : k < n
    · have hkl : k < names.length := by rw [HN.out]; exact hlt
      have hsz := HS.out names[k] (List.getElem_mem hkl)
      have HRG := HG.out.below HB.out hgp
      obtain ⟨hs0, hs1, hse, hE⟩ := HSP.out k hlt
      rw [← HRG.cell] at hs0 hs1
      have fut : ∀ {a : Addr} {v : Value}, wr.cell? a = some v → ∀ o, (wr.alloc o).cell? a = some v := fun h o => cell_later ((Below.refl _ _).alloc (Nat.le_refl _) o) h
      have fr : ∀ {a : Addr}, a.block < wr.heap.size → wr.frozen? a = false → ∀ o, (wr.alloc o).frozen? a = false := fun hl h o => (((Below.refl wr.heap.size wr).alloc (Nat.le_refl _) o).frozen hl).trans h
      have hflt := HRF.out.lt
      have hp12 := fut (show wr.cell? ⟨p, 12, none⟩ = some (.string text) from HRP.out.cell 12)
      have hp9 := fut (show wr.cell? ⟨p, 9, none⟩ = some (.bool u) from HRP.out.cell 9)
      have hp14 := fut (show wr.cell? ⟨p, 14, none⟩ = some (.slice (some ⟨w.heap.size, 0, none⟩) n n) from HRP.out.cell 14)
      have f0 := fr (a := ⟨w.heap.size, k * 6, none⟩) hflt (HRF.out.frozen _)
      have f1 := fr (a := ⟨w.heap.size, k * 6 + 1, none⟩) hflt (HRF.out.frozen _)
      have f2 := fr (a := ⟨w.heap.size, k * 6 + 2, none⟩) hflt (HRF.out.frozen _)
      have f3 := fr (a := ⟨w.heap.size, k * 6 + 3, none⟩) hflt (HRF.out.frozen _)
      have f4 := fr (a := ⟨w.heap.size, k * 6 + 4, none⟩) hflt (HRF.out.frozen _)
      have f5 := fr (a := ⟨w.heap.size, k * 6 + 5, none⟩) hflt (HRF.out.frozen _)
      obtain ⟨v0, c0⟩ := HRF.out.cellEx (j := k * 6) (by rw [HFF.out.1]; omega)
      obtain ⟨v1, c1⟩ := HRF.out.cellEx (j := k * 6 + 1) (by rw [HFF.out.1]; omega)
      obtain ⟨v2, c2⟩ := HRF.out.cellEx (j := k * 6 + 2) (by rw [HFF.out.1]; omega)
      obtain ⟨v3, c3⟩ := HRF.out.cellEx (j := k * 6 + 3) (by rw [HFF.out.1]; omega)
      obtain ⟨v4, c4⟩ := HRF.out.cellEx (j := k * 6 + 4) (by rw [HFF.out.1]; omega)
      obtain ⟨v5, c5⟩ := HRF.out.cellEx (j := k * 6 + 5) (by rw [HFF.out.1]; omega)
      replace c0 := fut c0
      replace c1 := fut c1
      replace c2 := fut c2
      replace c3 := fut c3
      replace c4 := fut c4
      replace c5 := fut c5
      clear fut fr HRG
      have hlti : (k : Int) < (n : Int) := by omega
      unfold maxLen at htext
      obtain ⟨hidx, hle, hex⟩ := HL.out k hkl
      obtain ⟨X, hX⟩ : ∃ X, text.extract (S k) (E k) = X := ⟨_, rfl⟩
      rw [hX] at hidx hle hex
      have hxs : X.size ≤ 9223372036854775807 := by rw [← hX, ByteArray.size_extract]; omega
      cases u with
      | true =>
        simp only [unescaped, if_true] at hidx hle hex
        have HIX : Hid (Lib.indexByte X.data.toList 58 = (names[k].size : Int)) := hidx
        have HEX : Hid (X.extract 0 names[k].size = names[k]) := hex
        clear hidx hex
        go_wp2
        go_quiet (fail)
        go_wp2_with (go_at_call 101; refine (index_at _ _ HIX.out _).mono ?_; rintro e w' ⟨rfl, rfl⟩)
        go_region
        go_wp2
        go_roundw
        case rel => exact ⟨k + 1, by omega, by go_num, build_rel (below_drewN ((Below.refl _ _).alloc (Nat.le_refl _) _) _) HB.out HRP.out HRF.out hplt hkl HEX.out hlt HFF.out⟩
        case measure => simp [intOf]; omega
      | false =>
        obtain ⟨Y, hY⟩ : ∃ Y, unescaped false X = Y := ⟨_, rfl⟩
        rw [hY] at hidx hle hex
        have hys : Y.size ≤ 9223372036854775807 := by
          rw [← hY]
          have := Lib.trimPrefix_le X.data.toList [45, 32]
          simp only [unescaped, Bool.false_eq_true, if_false, ByteArray.size, List.size_toArray]
          simp at this
          have h2 : X.data.size = X.size := rfl
          omega
        have HY : Hid (unescaped false X = Y) := hY
        have HIX : Hid (Lib.indexByte Y.data.toList 58 = (names[k].size : Int)) := hidx
        have HEX : Hid (Y.extract 0 names[k].size = names[k]) := hex
        clear hidx hex hY
        go_wp2
        go_quiet (fail)
        go_wp2_with (first | (go_at_call 101; refine (index_at _ _ HIX.out _).mono ?_; rintro e w' ⟨rfl, rfl⟩) | (go_at_call 100; refine (trim_at _ _ HY.out _).mono ?_; rintro e w' ⟨rfl, rfl⟩))
        go_region
        go_wp2
        go_roundw
        case rel => exact ⟨k + 1, by omega, by go_num, build_rel (below_drewN ((Below.refl _ _).alloc (Nat.le_refl _) _) _) HB.out HRP.out HRF.out hplt hkl HEX.out hlt HFF.out⟩
        case measure => simp [intOf]; omega
    · have hkn : k = n := by omega
      subst hkn
      have hp14 : wr.cell? ⟨p, 14, none⟩ = some (.slice (some ⟨w.heap.size, 0, none⟩) k k) := HRP.out.cell 14
      clear HL HSP
      go_wp2
      go_loopw [74] (fun i wx => ∃ j : Nat, j ≤ k ∧ i = .int .i64 j ∧ Below wr.heap.size wr wx ∧ ∀ i (hi : i < names.length), i < j → sameB r names[i] name = false) (fun i _ => k - (intOf i).toNat)
      case atStart => exact ⟨0, Nat.zero_le _, rfl, Below.refl _ _, fun j _ h => absurd h (by omega)⟩
      case round =>
        obtain ⟨j, hj, rfl, hb2, hno⟩ := hrel
        have HB2 : Hid (Below _ _ wr) := hb2
        have HO : Hid (∀ i (hi : i < names.length), i < j → sameB r names[i] name = false) := hno
        clear hb2 hno hp14
        have HPr := HRP.out.below HB2.out HRP.out.lt
        have HFr := HRF.out.below HB2.out HRF.out.lt
        have HBB := HB.out.trans (HB2.out.mono (Nat.le_of_lt HRP.out.lt))
        have HFIN : Hid (∃ f farr, RowAt wr p 119 (textCells u r text (.slice (some ⟨g, 0, none⟩) k k) (.slice (some ⟨f, 0, none⟩) k k)) ∧ RowAt wr f 155 farr ∧ FieldsIn farr k k names) := ⟨_, _, HPr, HFr, HFF.out⟩
        by_cases hlt2 : j < k
        · have hjl : j < names.length := by rw [HN.out]; exact hlt2
          have hsz := HS.out names[j] (List.getElem_mem hjl)
          have hp11 : wr.cell? ⟨p, 11, none⟩ = some (.int .u8 r) := HPr.cell 11
          obtain ⟨hc0, ⟨v1, hc1⟩, ⟨v2, hc2⟩, hc3, hc4, hc5⟩ := HFF.out.2 j hjl hlt2
          rw [← HFr.cell] at hc0 hc1 hc2 hc3 hc4 hc5
          have hp11' : ∀ o, (wr.alloc o).cell? ⟨p, 11, none⟩ = some (.int .u8 r) := fun o => cell_later ((Below.refl _ _).alloc (Nat.le_refl _) o) hp11
          have HPR : Hid _ := HPr
          have HFRR : Hid _ := HFr
          have HBH : Hid _ := HBB
          clear HPr HFr HBB
          cases hsame : sameB r names[j] name with
          | true =>
            go_wp2
            go_quiet ((go_at_call 102; exact Calls.quiet_of (same_any _ _ _ _ hsz hname)))
            go_wp2
            go_ret
            exact ⟨ret_int (firstIdx_hit hjl hsame HO.out).symm, below_drewN (HBH.out.alloc (Nat.le_of_lt (RowAt.lt HPR.out)) _) _, fin_later (below_drewN ((Below.refl _ _).alloc (Nat.le_refl _) _) _) HFIN.out⟩
          | false =>
            go_wp2
            go_quiet ((go_at_call 102; exact Calls.quiet_of (same_any _ _ _ _ hsz hname)))
            go_wp2
            go_roundw
            case rel =>
              refine ⟨j + 1, by omega, by go_num, below_drewN (HB2.out.alloc HB2.out.size _) _, fun i hi hij => ?_⟩
              by_cases e : i = j
              · subst e; exact hsame
              · exact HO.out i hi (by omega)
            case measure => simp [intOf]; omega
        · have HBH : Hid _ := HBB
          clear HPr HFr HBB
          go_wp2
          go_ret
          exact ⟨ret_int (firstIdx_miss fun i hi => HO.out i hi (by have := HN.out; omega)).symm, HBH.out, HFIN.out⟩

end Go.Proofs.Qxb6001690a
