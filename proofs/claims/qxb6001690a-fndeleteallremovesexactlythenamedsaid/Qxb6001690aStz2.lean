import Derived.Test.Qxb6001690aStz1
namespace Go.Proofs.Qxb6001690a
open Go.RowKit
set_option linter.unusedVariables false
set_option linter.unusedSimpArgs false

/-- '[]byte(s)': a new row with the string's bytes. -/
theorem bytes_of (s : ByteArray) (w : World) : ∃ (W : World) (cap : Nat), (convert 9 33 (.string s)).run Try.prog w = .ok (.slice (some ⟨w.heap.size, 0, none⟩) s.size cap) W ∧ Below w.heap.size w W ∧ s.size ≤ cap ∧
    CellsAt W (some ⟨w.heap.size, 0, none⟩) (Lib.byteCells s.data.toList) := by
  refine ⟨Lib.bytesWorld w 5 s, grownCap w s.size 0 5, Lib.run_convert_string_bytes w 9 33 5 s Try.underlying9 Try.underlying33 Try.underlying5, ?_, grownCap_ge _ _ _ _, ?_⟩
  · refine ⟨rfl, rfl, rfl, ?_, fun k hk => Lib.bytesWorld_at_old w 5 s k hk⟩
    rw [Lib.bytesWorld_size]; omega
  · intro k hk
    rw [Lib.byteCells_length] at hk
    have hk' : k < s.size := by simpa using hk
    refine ⟨w.heap.size, 0, rfl, ?_⟩
    rw [Nat.zero_add, Lib.bytesWorld_cell w 5 s k hk']
    simp [Lib.byteCells, hk', List.getD]

theorem elem33 : Try.prog.elem 33 = 5 := by kernel_rfl

/-- 'text[k:]' of a slice of bytes. -/
theorem slice_text (a : Option Addr) (n cap k m : Nat) (h t : List UInt8) (w : World) (hn : n = (h ++ t).length) (hk : k = h.length) (hm : m = t.length) (hcap : n ≤ cap) (hc : CellsAt w a (Lib.byteCells (h ++ t))) :
    ∃ A, (∀ w', (Instr.slice 33 (.slice a n cap) (some (.int .i64 (k : Int))) none none).run Try.prog w' = .ok (.slice A m (cap - k)) w') ∧ CellsAt w A (Lib.byteCells t) ∧ m ≤ cap - k := by
  subst hn hk hm
  simp only [List.length_append] at hcap ⊢
  refine ⟨if cap = h.length then a else a.map (·.add (h.length * 1)), fun w' => ?_, ?_, by omega⟩
  · have hr := run_slice_l (P := Try.prog) (t := 33) (w := w') (a := a) (len := h.length + t.length) (cap := cap) (by rw [elem33]; exact Try.underlying33) .i64 (h.length : Int) (by omega) (by omega)
    rw [hr, elem33]
    have hs : (sizeOf 5).run Try.prog w' = .ok 1 w' := Try.sizeOf5 w'
    simp [hs, Result.andThen, sliced]
  · intro j hj
    rw [Lib.byteCells_length] at hj
    obtain ⟨b, off, rfl, hcell⟩ := hc (h.length + j) (by rw [Lib.byteCells_length, List.length_append]; omega)
    have hne : cap ≠ h.length := by omega
    rw [if_neg hne]
    refine ⟨b, off + h.length, ?_, ?_⟩
    · by_cases h0 : h.length = 0
      · simp [Addr.add, h0]
      · simp [Addr.add, h0]
    · rw [Nat.add_assoc, hcell]
      simp [Lib.byteCells, hj]

/-- binary.Uvarint where a uvarint stands. -/
theorem uv_at (a : Option Addr) (n c x len : Nat) (rest : List UInt8) (w : World) (hx : x < 18446744073709551616) (hn : n = (Lib.uvarint x ++ rest).length) (hlen : len = (Lib.uvarint x).length) (hc : CellsAt w a (Lib.byteCells (Lib.uvarint x ++ rest))) :
    Calls Try.prog 113 #[.slice a n c] w fun e w' => e = .returned (.tuple #[.int .u64 (x : Int), .int .i64 (len : Int)]) ∧ w' = w := by
  have hp := Lib.uvarint_pos x
  obtain ⟨g, o, rfl, _⟩ := hc 0 (by rw [Lib.byteCells_length, List.length_append]; omega)
  subst hlen
  have hd := uvarintDec_back (x := x) rest hx
  refine (Try.binary_Uvarint g o n c (Lib.uvarint x ++ rest) w hn.symm ?_).mono ?_
  · intro j hj
    obtain ⟨g', o', he, hcell⟩ := hc j (by rw [Lib.byteCells_length]; exact hj)
    obtain ⟨rfl, rfl⟩ : g = g' ∧ o = o' := by simpa using he
    rw [hcell]
    unfold Lib.byteCells
    rw [List.getElem_map]
  · rintro e w' ⟨rfl, rfl⟩
    rw [hd]
    exact ⟨rfl, rfl⟩

theorem uv_pos (n : Int) : 1 ≤ (uv n).length := Lib.uvarint_pos _

/-- What was an int and is read back as one. -/
theorem back_i (n : Int) (h : (Lit.int .i64 n).wf = true) {x : Nat} (e : IntKind.u64.wrap n = (x : Int)) : IntKind.i64.wrap (x : Int) = n := by
  have hb : -9223372036854775808 ≤ n ∧ n ≤ 9223372036854775807 := by
    simp only [Lit.wf, Bool.and_eq_true, decide_eq_true_eq] at h
    have h1 : IntKind.i64.min = -9223372036854775808 := rfl
    have h2 : IntKind.i64.max = 9223372036854775807 := rfl
    omega
  rw [← e, IntKind.wrap_u64, IntKind.wrap_i64]
  omega

/-- 'make([]int, 0, n)'. -/
theorem make0 (n : Nat) (h : n ≤ 1048576) (w : World) : (Instr.makeSlice 45 (.int .i64 0) (.int .i64 (n : Int))).run Try.prog w = .ok (.slice (some ⟨w.heap.size, 0, none⟩) 0 n) (w.alloc (.cells (madeCells #[.int .i64 0] n) 3)) := by
  obtain ⟨i, hi, hz, hs, hb⟩ := info_parts Try.info3
  have hr := run_make (P := Try.prog) w 45 3 i (.int .i64 0) Try.underlying45 hi hz .i64 .i64 0 (n : Int) (by omega) (by omega) (by rw [hb]; omega) (by omega)
  rw [hs] at hr
  have e : (Value.int IntKind.i64 0).cells = #[.int .i64 0] := rfl
  rw [e] at hr
  simpa using hr

theorem row_of_owns {w : World} {B g n : Nat} {xs : List Value} (h : w.ownsRow B 3 1 (.slice (some ⟨g, 0, none⟩) n n) n xs) : RowAt w g 3 xs.toArray := by
  rcases h.2 with ⟨h', _⟩ | ⟨g', cap', cur, h', _, hg, _, _, hsz, htake⟩
  · simp at h'
  · simp only [Value.slice.injEq, Option.some.injEq, Addr.mk.injEq, and_true, true_and] at h'
    obtain ⟨rfl, rfl⟩ := h'
    have e : cur = xs.toArray := by
      rw [← htake, Nat.mul_one, List.take_of_length_le (by rw [Array.length_toList, hsz]; omega)]
    rw [← e]
    exact hg


set_option maxHeartbeats 400000 in
theorem fieldLines_empty (p : Nat) (F : Value) (r : Int) (w : World) (hp : RowAt w p 65 (stanzaCells F r ⟨#[]⟩)) :
    Calls Try.prog 93 #[.pointer (some ⟨p, 0, none⟩)] w fun e w' => e = .returned (.tuple #[.int .i64 0, .slice none 0 0, .bool false]) ∧ Below w.heap.size w w' := by
  obtain ⟨W, cap, hcv, hB, hcap, hcells⟩ := bytes_of ⟨#[]⟩ w
  have h0 : (⟨#[]⟩ : ByteArray).size = 0 := rfl
  rw [h0] at hcv
  have hp3 : w.cell? ⟨p, 3, none⟩ = some (.string ⟨#[]⟩) := hp.cell 3
  replace hB := hid hB
  clear hp hcells hcap h0
  have K := Try.binary_Uvarint_empty (some ⟨w.heap.size, 0, none⟩) cap W
  have e0 : (Lib.uvarintDec []) = (0, 0) := rfl
  rw [e0] at K
  replace K := hid K
  clear e0
  go_enter Try.func93, Try.ntmps93
  go_wp2_with (go_at_call 113; refine Calls.mono K.out ?_; rintro e w' ⟨rfl, rfl⟩)
  go_ret3
  exact ⟨rfl, hB.out⟩

def sliceLen : Value → Nat
  | .slice _ n _ => n
  | _ => 0

set_option maxRecDepth 100000 in
set_option maxHeartbeats 1000000 in
theorem fieldLines_ok (p : Nat) (fa : Option Addr) (n fc : Nat) (r : Int) (first : Int) (xs : List Int) (w : World) (hn : xs.length = n) (hm : n ≤ 1048576) (hfw : (Lit.int .i64 first).wf = true) (hxw : ∀ x ∈ xs, (Lit.int .i64 x).wf = true)
    (hp : RowAt w p 65 (stanzaCells (.slice fa n fc) r ⟨(encAll first n xs).toArray⟩)) :
    Calls Try.prog 93 #[.pointer (some ⟨p, 0, none⟩)] w fun e w' => (∃ g, e = .returned (.tuple #[.int .i64 first, .slice (some ⟨g, 0, none⟩) n n, .bool true]) ∧ RowAt w' g 3 (xs.map (.int .i64)).toArray ∧ w.heap.size ≤ g) ∧ Below w.heap.size w w' := by
  obtain ⟨T, HT⟩ : ∃ T, Hid ((⟨(encAll first n xs).toArray⟩ : ByteArray) = T) := ⟨_, hid rfl⟩
  rw [HT.out] at hp
  obtain ⟨W, cap, hcv, hB, hcap, hcells⟩ := bytes_of T w
  have eT : T.data.toList = encAll first n xs := by rw [← HT.out]
  rw [eT] at hcells
  have hT : T.size = (encAll first n xs).length := by rw [← eT]; simp
  obtain ⟨x1, e1, hx1, HX1⟩ := as_u first
  have hfb := back_i first hfw e1
  have HEN : uv (n : Int) = Lib.uvarint n := by
    have en : u64 (n : Int) = n := by unfold u64; omega
    unfold uv; rw [en]
  have hsplit : encAll first n xs = Lib.uvarint x1 ++ (Lib.uvarint n ++ uvs xs) := by unfold encAll; rw [HX1.out, HEN]
  have hx2 : Hid (n < 18446744073709551616) := by show n < 18446744073709551616; omega
  have hl1 := Lib.uvarint_length64 hx1.out
  have hl2 := Lib.uvarint_length64 hx2.out
  have hl3 := uvs_length xs
  have hp1 := Lib.uvarint_pos x1
  have hp2 := Lib.uvarint_pos n
  rw [hsplit] at hcells hT
  -- the numbers as letters
  obtain ⟨N1, hN1⟩ : ∃ N1, T.size = N1 := ⟨_, rfl⟩
  rw [hN1] at hcv hcap hT
  obtain ⟨k1, hk1⟩ : ∃ k1, k1 = (Lib.uvarint x1).length := ⟨_, rfl⟩
  obtain ⟨k2, hk2⟩ : ∃ k2, k2 = (Lib.uvarint n).length := ⟨_, rfl⟩
  obtain ⟨N2, hN2⟩ : ∃ N2, N2 = (Lib.uvarint n ++ uvs xs).length := ⟨_, rfl⟩
  obtain ⟨N3, hN3⟩ : ∃ N3, N3 = (uvs xs).length := ⟨_, rfl⟩
  obtain ⟨A2, hs1, hcells2, hcap2⟩ := slice_text _ N1 cap k1 N2 (Lib.uvarint x1) (Lib.uvarint n ++ uvs xs) W hT hk1 hN2 hcap hcells
  obtain ⟨A3, hs2, hcells3, hcap3⟩ := slice_text _ N2 (cap - k1) k2 N3 (Lib.uvarint n) (uvs xs) W hN2 hk2 hN3 hcap2 hcells2
  have K1 := uv_at _ N1 cap x1 k1 _ W hx1.out hT hk1 hcells
  have K2 := fun q => uv_at _ N2 (cap - k1) n k2 _ (W.drewN q) hx2.out hN2 hk2 (hcells2.below (below_drewN (Below.refl _ _) q))
  have hp3 : w.cell? ⟨p, 3, none⟩ = some (.string T) := hp.cell 3
  have hp0 : W.cell? ⟨p, 0, none⟩ = some (.slice fa n fc) := cell_later hB (hp.cell 0)
  have hmk := make0 n hm
  have q1 : 0 < (k1 : Int) := by omega
  have q1' : (k1 : Int) ≤ (N1 : Int) := by rw [List.length_append] at hT; omega
  have q2 : 0 < (k2 : Int) := by omega
  have q2' : (k2 : Int) ≤ (N2 : Int) := by rw [List.length_append] at hN2; omega
  have HN : Hid (xs.length = n) := hn
  replace hN3 := hid hN3
  replace hcells3 := hid hcells3
  replace K1 := hid K1
  replace K2 := hid K2
  replace hB := hid hB
  replace hxw := hid hxw
  replace hcap3 := hid hcap3
  clear hp hcells hcells2 hcap hcap2 hT hN1 hk1 hk2 hN2 hsplit hl1 hl2 hl3 hp1 hp2 HX1 HEN eT e1 hfw HT hn
  have hp0a : ∀ q o, ((W.drewN q).alloc o).cell? ⟨p, 0, none⟩ = some (.slice fa n fc) := fun q o => cell_later ((below_drewN (Below.refl _ _) q).alloc (Nat.le_refl _) o) hp0
  by_cases h0 : n = 0
  · have hx0 : xs = [] := List.eq_nil_of_length_eq_zero (HN.out.trans h0)
    subst hx0
    have hN0 : N3 = 0 := by rw [hN3.out]; rfl
    have hNb : ((N3 : Int) == 0) = true := by rw [hN0]; rfl
    have hn0i : ¬ (0 : Int) < (n : Int) := by omega
    have H0 : Hid (n = 0) := h0
    clear hN0 h0 hN3
    go_enter Try.func93, Try.ntmps93
    go_wp2_with (go_at_call 113; refine keepW K1.out ?_; rintro e rfl)
    go_quiet (fail)
    go_wp2_with (go_at_call 113; refine keepW (K2.out nq) ?_; rintro e rfl)
    refine wp_loop_rounds 1 ?_
    rw [rounds_succ]
    go_wp2
    go_ret3
    have hn0 := H0.out
    subst hn0
    refine ⟨⟨_, rfl, ?_, hB.out.size⟩, ?_⟩
    · have e0 : madeCells #[Value.int IntKind.i64 0] 0 = (([] : List Int).map (Value.int .i64)).toArray := by simp [madeCells]
      rw [← e0]
      exact RowAt.new (W.drewN nq) 3 _
    · exact (hB.out.trans (below_drewN (Below.refl _ _) nq)).alloc hB.out.size _
  · have hNp : 0 < N3 := by
      rw [hN3.out]
      cases xs with
      | nil => exact absurd HN.out (by simpa using fun h => h0 h.symm)
      | cons x xs =>
        have := uv_pos x
        simp only [uvs, List.flatMap_cons, List.length_append]
        omega
    have hNb : ((N3 : Int) == 0) = false := by simp; omega
    have hNi : 0 < (N3 : Int) := by omega
    go_enter Try.func93, Try.ntmps93
    go_wp2_with (go_at_call 113; refine keepW K1.out ?_; rintro e rfl)
    go_quiet (fail)
    go_wp2_with (go_at_call 113; refine keepW (K2.out nq) ?_; rintro e rfl)
    obtain ⟨i3, hi3, hz0, hz1, hz2⟩ := info_parts Try.info3
    replace hi3 := hid hi3
    replace hz1 := hid hz1
    clear hz0 hz2 K1 K2 hs1 hs2 hmk hcv hp3 hp0 hp0a hfb hNb hNi q1 q1' q2 q2'
    go_loopw [2, 3, 5] (fun v2 v3 v5 wr => ∃ (k m c' : Nat) (A : Option Addr), k ≤ n ∧ v2 = .int .i64 first ∧ v3 = .slice (some ⟨W.heap.size, 0, none⟩) k n ∧ v5 = .slice A m c' ∧ m = (uvs (xs.drop k)).length ∧ m ≤ c' ∧
        wr.ownsRow W.heap.size 3 1 (.slice (some ⟨W.heap.size, 0, none⟩) k n) k ((xs.take k).map (.int .i64)) ∧ CellsAt W A (Lib.byteCells (uvs (xs.drop k))) ∧ Below W.heap.size W wr) (fun _ _ v5 _ => sliceLen v5)
    case atStart =>
      refine ⟨0, N3, _, A3, Nat.zero_le _, rfl, rfl, rfl, by simpa using hN3.out, hcap3.out, ?_, by simpa using hcells3.out, ?_⟩
      · exact World.ownsRow_made (W.drewN nq) _ n (Nat.le_refl _) (by unfold maxLen; omega) (by simp [size_madeCells])
      · exact (below_drewN (Below.refl _ _) nq).alloc (Nat.le_refl _) _
    case round =>
      obtain ⟨k, m, c', A, hk, rfl, rfl, rfl, hmk, hmc, hown, hcA, hBr⟩ := hrel
      by_cases hlt : k < n
      · have hkl : k < xs.length := by rw [HN.out]; exact hlt
        obtain ⟨x, ex, hx, HX⟩ := as_u xs[k]
        have hback := back_i xs[k] (hxw.out _ (List.getElem_mem hkl)) ex
        have hdrop : uvs (xs.drop k) = Lib.uvarint x ++ uvs (xs.drop (k + 1)) := by
          rw [List.drop_eq_getElem_cons hkl]
          simp only [uvs, List.flatMap_cons, HX.out]
        rw [hdrop] at hmk hcA
        obtain ⟨len, hlen⟩ : ∃ len, len = (Lib.uvarint x).length := ⟨_, rfl⟩
        obtain ⟨m2, hm2⟩ : ∃ m2, m2 = (uvs (xs.drop (k + 1))).length := ⟨_, rfl⟩
        obtain ⟨A', hs, hcA', hmc'⟩ := slice_text A m c' len m2 _ _ W hmk hlen hm2 hmc hcA
        have KU := uv_at A m c' x len _ wr hx.out hmk hlen (hcA.below hBr)
        have hpos := Lib.uvarint_pos x
        have g1 : 0 < (m : Int) := by rw [hmk, List.length_append]; omega
        have g2 : 0 < (len : Int) := by omega
        have g3 : (len : Int) ≤ (m : Int) := by rw [hmk, hlen, List.length_append]; omega
        have hmeas : Hid (m2 < m) := by
          show m2 < m
          rw [hmk, hm2, List.length_append]; omega
        have hsz := hBr.size
        replace KU := hid KU
        replace hown := hid hown
        replace hBr := hid hBr
        replace hcA' := hid hcA'
        replace hm2 := hid hm2
        replace hmc' := hid hmc'
        clear hcA hmk hmc hlen hdrop hpos ex
        go_wp2_with (first
          | (go_at_call 113; refine keepW KU.out ?_; rintro e rfl)
          | (at_builtin; refine wpList_append_fits _ rfl (.tmp 93) (.tmp 96) 45 rfl W.heap.size 3 i3 1 Try.underlying45 hi3.out hz1.out W.heap.size k n _ rfl (hown.out.alloc _) ⟨wr.heap.size, 0, none⟩ 1 1 [.int .i64 xs[k]] rfl rfl (one_new rfl _ _) (by intro u hu; simp at hu; subst hu; rfl) (by omega) ?_; intro w3 hown3 hgr3; replace hown3 := hid hown3; replace hgr3 := hid hgr3))
        refine ⟨⟨k + 1, m2, c' - len, A', by omega, rfl, rfl, rfl, hm2.out, hmc'.out, ?_, hcA'.out, ?_⟩, hmeas.out⟩
        · have h := hown3.out
          rw [List.take_succ_eq_append_getElem hkl, List.map_append]
          exact h
        · have ha : Below W.heap.size W (wr.alloc (.cells #[.int .i64 xs[k]] 3)) := hBr.out.alloc hsz _
          exact ha.trans ((Below.refl _ _).grown hgr3.out ha.size (fun j hj => by cases hj; exact Nat.le_refl _))
      · have hkn : k = n := by omega
        subst hkn
        have hd0 : xs.drop k = [] := List.drop_eq_nil_of_le (by rw [HN.out]; exact Nat.le_refl _)
        have ht0 : xs.take k = xs := List.take_of_length_le (by rw [HN.out]; exact Nat.le_refl _)
        rw [ht0] at hown
        have hm0 : ¬ (0 : Int) < (m : Int) := by
          rw [hmk, hd0]
          simp [uvs]
        replace hown := hid hown
        replace hBr := hid hBr
        clear hmk hmc hcA hd0 ht0
        go_wp2
        go_ret3
        exact ⟨⟨_, rfl, row_of_owns hown.out, hB.out.size⟩, hB.out.trans (hBr.out.mono hB.out.size)⟩

end Go.Proofs.Qxb6001690a
