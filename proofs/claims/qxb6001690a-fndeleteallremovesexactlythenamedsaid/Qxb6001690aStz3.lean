import Derived.Test.Qxb6001690aStz2
namespace Go.Proofs.Qxb6001690a
open Go.RowKit
set_option linter.unusedVariables false
set_option linter.unusedSimpArgs false

set_option maxRecDepth 100000 in
set_option maxHeartbeats 1000000 in
theorem fieldLines_other (p : Nat) (fa : Option Addr) (n fc : Nat) (r : Int) (first : Int) (m : Nat) (xs : List Int) (w : World) (hne : m ≠ n) (hm : n ≤ 1048576) (hm' : m ≤ 1048576) (hfw : (Lit.int .i64 first).wf = true) (hxl : xs.length ≤ 1048576)
    (hp : RowAt w p 65 (stanzaCells (.slice fa n fc) r ⟨(encAll first m xs).toArray⟩)) :
    Calls Try.prog 93 #[.pointer (some ⟨p, 0, none⟩)] w fun e w' => e = .returned (.tuple #[.int .i64 0, .slice none 0 0, .bool false]) ∧ Below w.heap.size w w' := by
  obtain ⟨T, HT⟩ : ∃ T, Hid ((⟨(encAll first m xs).toArray⟩ : ByteArray) = T) := ⟨_, hid rfl⟩
  rw [HT.out] at hp
  obtain ⟨W, cap, hcv, hB, hcap, hcells⟩ := bytes_of T w
  have eT : T.data.toList = encAll first m xs := by rw [← HT.out]
  rw [eT] at hcells
  have hT : T.size = (encAll first m xs).length := by rw [← eT]; simp
  obtain ⟨x1, e1, hx1, HX1⟩ := as_u first
  have hfb := back_i first hfw e1
  have HEN : uv (m : Int) = Lib.uvarint m := by
    have en : u64 (m : Int) = m := by unfold u64; omega
    unfold uv; rw [en]
  have hsplit : encAll first m xs = Lib.uvarint x1 ++ (Lib.uvarint m ++ uvs xs) := by unfold encAll; rw [HX1.out, HEN]
  have hx2 : Hid (m < 18446744073709551616) := by show m < 18446744073709551616; omega
  have hl1 := Lib.uvarint_length64 hx1.out
  have hl2 := Lib.uvarint_length64 hx2.out
  have hl3 := uvs_length xs
  have hp1 := Lib.uvarint_pos x1
  have hp2 := Lib.uvarint_pos m
  rw [hsplit] at hcells hT
  obtain ⟨N1, hN1⟩ : ∃ N1, T.size = N1 := ⟨_, rfl⟩
  rw [hN1] at hcv hcap hT
  obtain ⟨k1, hk1⟩ : ∃ k1, k1 = (Lib.uvarint x1).length := ⟨_, rfl⟩
  obtain ⟨k2, hk2⟩ : ∃ k2, k2 = (Lib.uvarint m).length := ⟨_, rfl⟩
  obtain ⟨N2, hN2⟩ : ∃ N2, N2 = (Lib.uvarint m ++ uvs xs).length := ⟨_, rfl⟩
  obtain ⟨A2, hs1, hcells2, hcap2⟩ := slice_text _ N1 cap k1 N2 (Lib.uvarint x1) (Lib.uvarint m ++ uvs xs) W hT hk1 hN2 hcap hcells
  have K1 := uv_at _ N1 cap x1 k1 _ W hx1.out hT hk1 hcells
  have K2 := fun q => uv_at _ N2 (cap - k1) m k2 _ (W.drewN q) hx2.out hN2 hk2 (hcells2.below (below_drewN (Below.refl _ _) q))
  have hp3 : w.cell? ⟨p, 3, none⟩ = some (.string T) := hp.cell 3
  have hp0 : W.cell? ⟨p, 0, none⟩ = some (.slice fa n fc) := cell_later hB (hp.cell 0)
  have q1 : 0 < (k1 : Int) := by omega
  have q1' : (k1 : Int) ≤ (N1 : Int) := by rw [List.length_append] at hT; omega
  have q2 : 0 < (k2 : Int) := by omega
  have hneb : ((m : Int) == (n : Int)) = false := by simp; omega
  have hnei : (m : Int) ≠ (n : Int) := by omega
  replace K1 := hid K1
  replace K2 := hid K2
  replace hB := hid hB
  clear hp hcells hcells2 hcap hcap2 hT hN1 hk1 hk2 hN2 hsplit hl1 hl2 hl3 hp1 hp2 HX1 HEN eT e1 hfw HT hne
  go_enter Try.func93, Try.ntmps93
  go_wp2_with (go_at_call 113; refine keepW K1.out ?_; rintro e rfl)
  go_quiet (fail)
  go_wp2_with (go_at_call 113; refine keepW (K2.out nq) ?_; rintro e rfl)
  go_ret3
  exact ⟨rfl, below_drewN hB.out _⟩

/-! the wrappers -/
theorem zzSetLines_no (p : Nat) (F : Value) (r : Int) (l : ByteArray) (first : Int) (ls : Value) (w : World) (hp : RowAt w p 65 (stanzaCells F r l)) :
    Calls Try.prog 59 #[.pointer (some ⟨p, 0, none⟩), .int .i64 first, ls, .bool false] w fun e w' => e = .returned (.tuple #[]) ∧ w' = w.setCell ⟨p, 3, none⟩ (.string ⟨#[]⟩) := by
  have K := hid (setLines_no p F r l first ls w hp)
  clear hp
  go_enter Try.func59, Try.ntmps59
  go_wp2_with (go_at_call 92; refine Calls.mono K.out ?_; rintro e w' ⟨rfl, rfl⟩)
  go_end0
  exact ⟨rfl, rfl⟩
theorem zzSetLines_yes (p : Nat) (F : Value) (r : Int) (l : ByteArray) (first : Int) (a : Option Addr) (n c : Nat) (xs : List Int) (w : World) (hp : RowAt w p 65 (stanzaCells F r l))
    (hn : xs.length = n) (hm : n ≤ 1048576) (hc : CellsAt w a (xs.map (.int .i64))) :
    Calls Try.prog 59 #[.pointer (some ⟨p, 0, none⟩), .int .i64 first, .slice a n c, .bool true] w fun e w' => e = .returned (.tuple #[]) ∧ RowAt w' p 65 (stanzaCells F r ⟨(encAll first n xs).toArray⟩) ∧ Kept (· = p) w w' := by
  have K := hid (setLines_yes p F r l first a n c xs w hp hn hm hc)
  clear hp hn hm hc
  go_enter Try.func59, Try.ntmps59
  go_wp2_with (go_at_call 92; refine Calls.mono K.out ?_; rintro e w' ⟨rfl, h1, h2⟩; replace h1 := hid h1; replace h2 := hid h2)
  go_end0
  exact ⟨rfl, h1.out, h2.out⟩
/-- ZZFieldLines hands on what fieldLines hands back. -/
theorem zzFieldLines_of (p : Nat) (w : World) (R : Value → Value → Value → World → Prop) (h : Calls Try.prog 93 #[.pointer (some ⟨p, 0, none⟩)] w fun e w' => ∃ a b c, e = .returned (.tuple #[a, b, c]) ∧ R a b c w') :
    Calls Try.prog 60 #[.pointer (some ⟨p, 0, none⟩)] w fun e w' => ∃ a b c, e = .returned (.tuple #[a, b, c]) ∧ R a b c w' := by
  replace h := hid h
  go_enter Try.func60, Try.ntmps60
  go_wp2_with (go_at_call 93; refine Calls.mono h.out ?_; rintro e w' ⟨a, b, c, rfl, hr⟩; replace hr := hid hr)
  go_ret3
  exact ⟨_, _, _, rfl, hr.out⟩

/-- (*Stanza).line. -/
theorem line_no (p : Nat) (i : Int) (w : World) (h : Calls Try.prog 93 #[.pointer (some ⟨p, 0, none⟩)] w fun e w' => e = .returned (.tuple #[.int .i64 0, .slice none 0 0, .bool false]) ∧ Below w.heap.size w w') :
    Calls Try.prog 77 #[.pointer (some ⟨p, 0, none⟩), .int .i64 i] w fun e w' => e = .returned (.int .i64 0) ∧ Below w.heap.size w w' := by
  replace h := hid h
  go_enter Try.func77, Try.ntmps77
  go_wp2_with (first | (go_at_call 93; refine Calls.mono h.out ?_; rintro e w' ⟨rfl, hr⟩; replace hr := hid hr) | go_in)
  go_ret
  exact ⟨rfl, hr.out⟩
theorem line_first (p n : Nat) (first i : Int) (R : Nat → World → Prop) (w : World) (hi : i < 0)
    (h : Calls Try.prog 93 #[.pointer (some ⟨p, 0, none⟩)] w fun e w' => (∃ g, e = .returned (.tuple #[.int .i64 first, .slice (some ⟨g, 0, none⟩) n n, .bool true]) ∧ R g w') ∧ Below w.heap.size w w') :
    Calls Try.prog 77 #[.pointer (some ⟨p, 0, none⟩), .int .i64 i] w fun e w' => e = .returned (.int .i64 first) ∧ Below w.heap.size w w' := by
  replace h := hid h
  go_enter Try.func77, Try.ntmps77
  go_wp2_with (first | (go_at_call 93; refine Calls.mono h.out ?_; rintro e w' ⟨⟨g, rfl, _⟩, hr⟩; replace hr := hid hr) | go_in)
  go_ret
  exact ⟨rfl, hr.out⟩
theorem line_at (p n : Nat) (first : Int) (xs : List Int) (k : Nat) (w : World) (hn : xs.length = n) (hk : k < xs.length) (hm : n ≤ 1048576)
    (h : Calls Try.prog 93 #[.pointer (some ⟨p, 0, none⟩)] w fun e w' => (∃ g, e = .returned (.tuple #[.int .i64 first, .slice (some ⟨g, 0, none⟩) n n, .bool true]) ∧ RowAt w' g 3 (xs.map (.int .i64)).toArray ∧ w.heap.size ≤ g) ∧ Below w.heap.size w w') :
    Calls Try.prog 77 #[.pointer (some ⟨p, 0, none⟩), .int .i64 (k : Int)] w fun e w' => e = .returned (.int .i64 xs[k]) ∧ Below w.heap.size w w' := by
  replace h := hid h
  have hkn : (k : Int) < (n : Int) := by omega
  have hk0 : ¬ (k : Int) < 0 := by omega
  have HN := hid hn
  clear hn
  go_enter Try.func77, Try.ntmps77
  go_wp2_with (first | (go_at_call 93; refine Calls.mono h.out ?_; rintro e w' ⟨⟨g, rfl, hrow, _⟩, hr⟩; replace hr := hid hr; have hcell : w'.cell? ⟨g, k, none⟩ = some (.int .i64 xs[k]) := (hrow.cell k).trans (by simp [hk]); clear hrow) | go_in)
  go_ret
  exact ⟨rfl, hr.out⟩

end Go.Proofs.Qxb6001690a
