import Derived.Test.Qxb6600360aRune
import Derived.Lib.OthersKept
namespace Go.Proofs.Qxb6600360a
open Go.RowKit
set_option linter.unusedVariables false
set_option linter.unusedSimpArgs false

theorem get_eq (s : ByteArray) (k : Nat) (b : UInt8) (h : s.data.toList[k]? = some b) : s.get! k = b := by
  obtain ⟨hk, e⟩ := List.getElem?_eq_some_iff.1 h
  have hk' : k < s.size := by simpa using hk
  have := get_at s k hk'
  simp only [Nat.add_zero] at this
  rw [this, ← e]
  rfl

theorem decode_facts (s : ByteArray) (pos : Nat) (h : pos < s.size) (ha : 128 ≤ (s.get! pos).toNat) :
    ((Utf8.decode s pos).1 = 65533 ∨ Utf8.valid (Utf8.decode s pos).1 = true) ∧ (Utf8.decode s pos).2 ≤ s.size - pos ∧ ∀ k, k < (Utf8.decode s pos).2 → 128 ≤ (s.get! (pos + k)).toNat := by
  have hn : ¬ (s.get! (pos + 0)).toNat < 128 := by simpa using ha
  simp only [Utf8.decode, hn, if_false]
  have h0 : ∀ k, k < 1 → 128 ≤ (s.get! (pos + k)).toNat := fun k hk => by
    obtain rfl : k = 0 := by omega
    exact ha
  split
  · rename_i hc
    simp only [Bool.and_eq_true, beq_iff_eq, decide_eq_true_eq] at hc
    split
    · rename_i h2
      refine ⟨Or.inr ?_, by simp only []; omega, fun k hk => ?_⟩
      · rw [validRune_eq]; unfold validRune; simp only [decide_eq_true_eq]
        have : ((s.get! (pos + 1)).toNat) < 256 := UInt8.toNat_lt _
        omega
      · have : k = 0 ∨ k = 1 := by simp only [] at hk; omega
        rcases this with rfl | rfl
        · exact ha
        · omega
    · exact ⟨Or.inl rfl, by simp only []; omega, h0⟩
  · split
    · rename_i hc
      simp only [Bool.and_eq_true, beq_iff_eq, decide_eq_true_eq] at hc
      split
      · rename_i h2
        simp only [Bool.and_eq_true, decide_eq_true_eq] at h2
        refine ⟨Or.inr h2.2, by simp only []; omega, fun k hk => ?_⟩
        have : k = 0 ∨ k = 1 ∨ k = 2 := by simp only [] at hk; omega
        rcases this with rfl | rfl | rfl
        · exact ha
        · omega
        · omega
      · exact ⟨Or.inl rfl, by simp only []; omega, h0⟩
    · split
      · rename_i hc
        simp only [Bool.and_eq_true, beq_iff_eq, decide_eq_true_eq] at hc
        split
        · rename_i h2
          simp only [Bool.and_eq_true, decide_eq_true_eq] at h2
          refine ⟨Or.inr h2.2, by simp only []; omega, fun k hk => ?_⟩
          have : k = 0 ∨ k = 1 ∨ k = 2 ∨ k = 3 := by simp only [] at hk; omega
          rcases this with rfl | rfl | rfl | rfl
          · exact ha
          · omega
          · omega
          · omega
        · exact ⟨Or.inl rfl, by simp only []; omega, h0⟩
      · exact ⟨Or.inl rfl, by simp only []; omega, h0⟩

theorem libValid_eq (r : Int) : Lib.validRune r = Utf8.valid r := by
  rw [validRune_eq]; rfl

theorem indexRune_high (s : ByteArray) (r : Int) (w : World) (hs : s.size = 2) (hascii : ∀ (j : Nat) b, s.data.toList[j]? = some b → b.toNat < 128) (h : 128 ≤ r) (hr : r = 65533 ∨ Utf8.valid r = true) :
    Calls Try.prog 20 #[.string s, .int .i32 r] w fun e w' => e = .returned (.int .i64 (-1)) ∧ Below w.heap.size w w' := by
  by_cases h5 : r = 65533
  · subst h5; exact indexRune_error s w (by omega) hascii
  · have hv : Utf8.valid r = true := hr.resolve_left h5
    refine indexRune_valid s r w hs hascii h ?_ h5 ((libValid_eq r).trans hv) hv
    rw [validRune_eq] at hv; unfold validRune at hv; simp only [decide_eq_true_eq] at hv; omega

theorem indexRune_low (s : ByteArray) (x : UInt8) (w : World) (h : x.toNat < 128) :
    Calls Try.prog 20 #[.string s, .int .i32 x.toNat] w fun e w' => e = .returned (.int .i64 (Lib.indexByte s.data.toList x)) ∧ w' = w := by
  have := Try.strings_IndexRune_ascii s x.toNat w (by omega) (by omega)
  rwa [show ((x.toNat : Int)).toNat.toUInt8 = x by simp] at this

def At (w : World) (s : ByteArray) (i : Nat) (wx : World) : Prop := Below w.heap.size w wx ∧ wx.heap[w.heap.size]? = some (.stringIter s i)
theorem At.start (w : World) (s : ByteArray) : At w s 0 (w.iter s 0) := ⟨below_iter w s 0, World.iter_heap w s 0⟩
theorem At.step {w wx : World} {s : ByteArray} {i : Nat} (h : At w s i wx) (j : Nat) : At w s j (wx.iterAt w.heap.size s j) :=
  ⟨h.1.trans ⟨rfl, rfl, rfl, by rw [Lib.iterAt_size]; exact Nat.le_refl _, fun k hk => Lib.iterAt_other _ _ _ _ _ (by omega)⟩, Lib.iterAt_heap _ _ _ _ _ h.2⟩
theorem At.below {w wx wy : World} {s : ByteArray} {i : Nat} (h : At w s i wx) (hb : Below wx.heap.size wx wy) : At w s i wy := by
  have hlt : w.heap.size < wx.heap.size := (Array.getElem?_eq_some_iff.1 h.2).1
  exact ⟨h.1.trans (hb.mono (by omega)), by rw [hb.block _ hlt]; exact h.2⟩

set_option maxHeartbeats 8000000 in
set_option maxRecDepth 1000000 in
theorem indexAny_short (s t : ByteArray) (w : World) (ht : t.data.toList = [92, 38]) (h8 : s.size ≤ 8) :
    Calls Try.prog 19 #[.string s, .string t] w fun e w' => e = .returned (.int .i64 (Lib.indexAny s.data.toList [92, 38])) ∧ Below w.heap.size w w' := by
  have ht2 : t.size = 2 := by rw [Lib.size_eq, ht]; rfl
  have HT : Hid (t.data.toList = [92, 38]) := ht
  have hta : Hid (∀ (j : Nat) b, t.data.toList[j]? = some b → b.toNat < 128) := by
    intro j b hb
    rw [ht] at hb
    rcases j with _ | _ | j
    · cases hb; decide
    · cases hb; decide
    · cases hb
  have hemp : t.toList.isEmpty = false := by rw [Lib.toList_data, ht]; rfl
  have hn1 : ((t.size : Int) == 1) = false := beq_eq_false_iff_ne.2 (by omega)
  have h8z : decide ((8 : Int) < (s.size : Int)) = false := decide_eq_false (by omega)
  have K21 := Try.strings_shouldUseASCIISet (s.size : Int)
  rw [h8z] at K21
  replace K21 := hid K21
  clear ht h8z
  go_enter Try.func19, Try.ntmps19
  go_wp2_with (go_at_call 21; refine keepW (K21.out _) ?_; rintro e rfl)
  go_loopg [9, 10] s.size (fun g _ _ wx => ∃ i : Nat, i + g = s.size ∧ At w s i wx ∧ Lib.NoAny s.data.toList [92, 38] i)
  case atStart => exact ⟨0, by omega, At.start w s, Lib.NoAny.zero _ _⟩
  case round =>
    obtain ⟨i, hig, hat, hno⟩ := hrel
    have HN : Hid (Lib.NoAny s.data.toList [92, 38] i) := hno
    have HA : Hid (At w s i wr) := hat
    clear hno hat
    cases gk with
    | zero =>
      obtain rfl : i = s.size := by omega
      have hnx := fun ty => Lib.run_next_end_at (P := Try.prog) wr w.heap.size s s.size ty HA.out.2 (by omega)
      go_wp2
      go_ret
      exact ⟨by rw [Lib.indexAny_none (by rw [← Lib.size_eq]; exact HN.out)]; rfl, HA.out.1⟩
    | succ g =>
      have hi : i < s.size := by omega
      obtain ⟨x, hx⟩ : ∃ x : UInt8, s[i]'hi = x := ⟨_, rfl⟩
      have hxl : s.data.toList[i]? = some x := by rw [← hx]; exact Lib.data_getElem? s i hi
      have Hx : Hid (s.data.toList[i]? = some x) := hxl
      by_cases hx128 : x.toNat < 128
      · have hnx := fun ty => Lib.run_next_ascii_at (P := Try.prog) wr w.heap.size s i ty HA.out.2 hi (by rw [hx]; exact hx128)
        rw [hx] at hnx
        have HA2 : Hid (At w s (i + 1) (wr.iterAt w.heap.size s (i + 1))) := HA.out.step _
        clear hxl hx
        generalize wr.iterAt w.heap.size s (i + 1) = wn at *
        have hcon := Lib.contains_iff_indexByte [92, 38] x
        have K20 := fun w => indexRune_low t x w hx128
        rw [HT.out] at K20
        replace K20 := hid K20
        cases hin : List.contains [92, 38] x
        · rw [hin] at hcon
          have hlt : ¬ ((0 : Int) ≤ Lib.indexByte [92, 38] x) := of_decide_eq_false hcon.symm
          clear hcon
          generalize Lib.indexByte [92, 38] x = v at *
          have Hin : Hid (List.contains [92, 38] x = false) := hin
          clear hin
          go_wp2_with (go_at_call 20; refine keepW (K20.out _) ?_; rintro e rfl)
          go_roundg g
          case measure => omega
          case rel => exact ⟨i + 1, by omega, HA2.out, HN.out.succ Hx.out Hin.out⟩
        · rw [hin] at hcon
          have hge : (0 : Int) ≤ Lib.indexByte [92, 38] x := of_decide_eq_true hcon.symm
          clear hcon
          generalize Lib.indexByte [92, 38] x = v at *
          have Hin : Hid (List.contains [92, 38] x = true) := hin
          clear hin
          go_wp2_with (go_at_call 20; refine keepW (K20.out _) ?_; rintro e rfl)
          go_ret
          exact ⟨by rw [Lib.indexAny_hit HN.out Hx.out Hin.out]; rfl, HA2.out.1⟩
      · have hnx := fun ty => Lib.run_next_any_at (P := Try.prog) wr w.heap.size s i ty HA.out.2 hi
        have hge : s.get! i = x := get_eq s i x hxl
        have hb0 : 128 ≤ (s.get! i).toNat := by rw [hge]; omega
        obtain ⟨f1, f2⟩ := decode_high s i hi (by rw [hx]; omega)
        obtain ⟨f3, f4, f5⟩ := decode_facts s i hi hb0
        have hno2 : Hid (Lib.NoAny s.data.toList [92, 38] (i + (Utf8.decode s i).2)) := by
          intro j b hj hb
          by_cases hji : j < i
          · exact HN.out j b hji hb
          · have := f5 (j - i) (by omega)
            rw [show i + (j - i) = j by omega, get_eq s j b hb] at this
            apply Bool.eq_false_iff.2
            intro hc
            simp only [List.contains_cons, List.contains_nil, Bool.or_false, Bool.or_eq_true, beq_iff_eq] at hc
            rcases hc with rfl | rfl <;> simp at this
        have HA2 : Hid (At w s (i + (Utf8.decode s i).2) (wr.iterAt w.heap.size s (i + (Utf8.decode s i).2))) := HA.out.step _
        clear hxl hx f5 hge hb0
        generalize Utf8.decode s i = d at *
        obtain ⟨r, n⟩ := d
        simp only at *
        generalize wr.iterAt w.heap.size s (i + n) = wn at *
        have K20 := fun w => indexRune_high t r w ht2 hta.out (by omega) (by rcases f3 with h | h; exact Or.inl (by omega); exact Or.inr h)
        replace K20 := hid K20
        clear f3
        go_wp2_with (go_at_call 20; refine (K20.out _).mono ?_; rintro e wz ⟨rfl, hbz⟩; replace hbz := hid hbz)
        go_roundg (g + 1 - n)
        case measure => omega
        case rel => exact ⟨i + n, by omega, HA2.out.below hbz.out, hno2.out⟩

theorem indexAny_two (s t : ByteArray) (w : World) (ht : t.data.toList = [92, 38]) (hs : s.size ≤ 1048576) :
    Calls Try.prog 19 #[.string s, .string t] w fun e w' => e = .returned (.int .i64 (Lib.indexAny s.data.toList [92, 38])) ∧ Below w.heap.size w w' := by
  by_cases h8 : s.size ≤ 8
  · exact indexAny_short s t w ht h8
  · have ht2 : t.size = 2 := by rw [Lib.size_eq, ht]; rfl
    have K := Try.strings_IndexAny_long (zero_of_info (P := Try.prog) (t := 44) (n := 256) (by kernel_rfl)).1 s t w (by omega) (by omega) (by omega) (by omega) (by
      intro j b hb
      rw [ht] at hb
      rcases j with _ | _ | j
      · cases hb; decide
      · cases hb; decide
      · cases hb)
    rw [ht] at K
    refine K.mono ?_
    rintro e w' ⟨he, rfl⟩
    exact ⟨he, ((Below.refl _ _).alloc (Nat.le_refl _) _).alloc (by simp) _⟩

end Go.Proofs.Qxb6600360a
