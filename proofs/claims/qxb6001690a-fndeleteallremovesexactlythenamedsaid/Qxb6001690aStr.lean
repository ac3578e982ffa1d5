import Derived.Test.Qxb6001690aGua5
namespace Go.Proofs.Qxb6001690a
open Go.RowKit
set_option linter.unusedVariables false
set_option linter.unusedSimpArgs false

/-- The line after a value's line ends. -/
def nextLine (n : Int) (v : ByteArray) : Int := IntKind.i64.wrap (n + (1 + (Lib.countByte v.data.toList 10 : Int)))
def lineAt (first : Int) (vs : List ByteArray) (k : Nat) : Int := (vs.take k).foldl nextLine first
/-- The lines of a stanza whose lines are straight. -/
def straight (first : Int) (vs : List ByteArray) (k : Nat) : List Int := (List.range k).map (lineAt first vs)
theorem straight_succ (first : Int) (vs : List ByteArray) (k : Nat) : straight first vs (k + 1) = straight first vs k ++ [lineAt first vs k] := by
  simp [straight, List.range_succ]
theorem straight_length (first : Int) (vs : List ByteArray) (k : Nat) : (straight first vs k).length = k := by simp [straight]
theorem lineAt_succ (first : Int) (vs : List ByteArray) (k : Nat) (hk : k < vs.length) : lineAt first vs (k + 1) = nextLine (lineAt first vs k) vs[k] := by
  unfold lineAt
  rw [List.take_succ_eq_append_getElem hk, List.foldl_append]
  rfl
theorem wrap_wf (x : Int) : (Lit.int .i64 (IntKind.i64.wrap x)).wf = true := by
  have h1 : IntKind.i64.min = -9223372036854775808 := rfl
  have h2 : IntKind.i64.max = 9223372036854775807 := rfl
  simp only [Lit.wf, Bool.and_eq_true, decide_eq_true_eq, h1, h2, IntKind.wrap_i64]
  omega
theorem fold_wf : ∀ (vs : List ByteArray) (first : Int), (Lit.int .i64 first).wf = true → (Lit.int .i64 (vs.foldl nextLine first)).wf = true
  | [], _, h => h
  | v :: vs, first, h => fold_wf vs _ (wrap_wf _)
theorem lineAt_wf (first : Int) (vs : List ByteArray) (h : (Lit.int .i64 first).wf = true) (k : Nat) : (Lit.int .i64 (lineAt first vs k)).wf = true := fold_wf _ _ h
theorem straight_wf (first : Int) (vs : List ByteArray) (h : (Lit.int .i64 first).wf = true) (k : Nat) : ∀ x ∈ straight first vs k, (Lit.int .i64 x).wf = true := by
  intro x hx
  obtain ⟨j, _, rfl⟩ := List.mem_map.1 hx
  exact lineAt_wf first vs h j

set_option maxRecDepth 100000 in
set_option maxHeartbeats 4000000 in
theorem fieldLines_straight (p f n fc : Nat) (r : Int) (first : Int) (vs : List ByteArray) (A : Array Value) (w : World) (hn : vs.length = n) (hm : n ≤ 1048576) (hfw : (Lit.int .i64 first).wf = true)
    (hf : RowAt w f 57 A) (hval : ∀ j (h : j < vs.length), ∃ nm, A[j * 2]? = some (.string nm) ∧ A[j * 2 + 1]? = some (.string vs[j])) (hvs : ∀ v ∈ vs, v.size ≤ 1048576) (hfc : n ≤ fc)
    (hp : RowAt w p 65 (stanzaCells (.slice (some ⟨f, 0, none⟩) n fc) r ⟨(encAll first n []).toArray⟩)) :
    Calls Try.prog 93 #[.pointer (some ⟨p, 0, none⟩)] w fun e w' => (∃ g, e = .returned (.tuple #[.int .i64 first, .slice (some ⟨g, 0, none⟩) n n, .bool true]) ∧ RowAt w' g 3 ((straight first vs n).map (.int .i64)).toArray ∧ w.heap.size ≤ g) ∧ Below w.heap.size w w' := by
  obtain ⟨T, HT⟩ : ∃ T, Hid ((⟨(encAll first n []).toArray⟩ : ByteArray) = T) := ⟨_, hid rfl⟩
  rw [HT.out] at hp
  obtain ⟨W, cap, hcv, hB, hcap, hcells⟩ := bytes_of T w
  have eT : T.data.toList = encAll first n [] := by rw [← HT.out]
  rw [eT] at hcells
  have hT : T.size = (encAll first n []).length := by rw [← eT]; simp
  obtain ⟨x1, e1, hx1, HX1⟩ := as_u first
  have hfb := back_i first hfw e1
  have HEN : uv (n : Int) = Lib.uvarint n := by
    have en : u64 (n : Int) = n := by unfold u64; omega
    unfold uv; rw [en]
  have hsplit : encAll first n [] = Lib.uvarint x1 ++ (Lib.uvarint n ++ []) := by unfold encAll; rw [HX1.out, HEN]; rfl
  have hx2 : Hid (n < 18446744073709551616) := by show n < 18446744073709551616; omega
  have hl1 := Lib.uvarint_length64 hx1.out
  have hl2 := Lib.uvarint_length64 hx2.out
  have hp1 := Lib.uvarint_pos x1
  have hp2 := Lib.uvarint_pos n
  rw [hsplit] at hcells hT
  obtain ⟨N1, hN1⟩ : ∃ N1, T.size = N1 := ⟨_, rfl⟩
  rw [hN1] at hcv hcap hT
  obtain ⟨k1, hk1⟩ : ∃ k1, k1 = (Lib.uvarint x1).length := ⟨_, rfl⟩
  obtain ⟨k2, hk2⟩ : ∃ k2, k2 = (Lib.uvarint n).length := ⟨_, rfl⟩
  obtain ⟨N2, hN2⟩ : ∃ N2, N2 = (Lib.uvarint n ++ ([] : List UInt8)).length := ⟨_, rfl⟩
  obtain ⟨A2, hs1, hcells2, hcap2⟩ := slice_text _ N1 cap k1 N2 (Lib.uvarint x1) (Lib.uvarint n ++ []) W hT hk1 hN2 hcap hcells
  obtain ⟨A3, hs2, hcells3, hcap3⟩ := slice_text _ N2 (cap - k1) k2 0 (Lib.uvarint n) [] W hN2 hk2 rfl hcap2 hcells2
  have K1 := uv_at _ N1 cap x1 k1 _ W hx1.out hT hk1 hcells
  have K2 := fun q => uv_at _ N2 (cap - k1) n k2 _ (W.drewN q) hx2.out hN2 hk2 (hcells2.below (below_drewN (Below.refl _ _) q))
  have hp3 : w.cell? ⟨p, 3, none⟩ = some (.string T) := hp.cell 3
  have hp0 : W.cell? ⟨p, 0, none⟩ = some (.slice (some ⟨f, 0, none⟩) n fc) := cell_later hB (hp.cell 0)
  have hmk := make0 n hm
  have q1 : 0 < (k1 : Int) := by omega
  have q1' : (k1 : Int) ≤ (N1 : Int) := by rw [List.length_append] at hT; omega
  have q2 : 0 < (k2 : Int) := by omega
  have q2' : (k2 : Int) ≤ (N2 : Int) := by rw [List.length_append] at hN2; omega
  have HN : Hid (vs.length = n) := hn
  have hfW := hid (hf.below hB hf.lt)
  replace K1 := hid K1
  replace K2 := hid K2
  replace hB := hid hB
  replace hval := hid hval
  replace hvs := hid hvs
  clear hp hf hcells hcells2 hcells3 hcap hcap2 hcap3 hT hN1 hk1 hk2 hN2 hsplit hl1 hl2 hp1 hp2 HX1 HEN eT e1 hfw HT hn
  have hp0a : ∀ q o, ((W.drewN q).alloc o).cell? ⟨p, 0, none⟩ = some (.slice (some ⟨f, 0, none⟩) n fc) := fun q o => cell_later ((below_drewN (Below.refl _ _) q).alloc (Nat.le_refl _) o) hp0
  go_enter Try.func93, Try.ntmps93
  go_wp2_with (go_at_call 113; refine keepW K1.out ?_; rintro e rfl)
  go_quiet (fail)
  go_wp2_with (go_at_call 113; refine keepW (K2.out nq) ?_; rintro e rfl)
  obtain ⟨i3, hi3, hz0, hz1, hz2⟩ := info_parts Try.info3
  replace hi3 := hid hi3
  replace hz1 := hid hz1
  clear hz0 hz2 K1 K2 hs1 hs2 hmk hcv hp3 hp0 hp0a hfb q1 q1' q2 q2'
  go_loopw [3, 8, 63] (fun v3 v8 vi wr => ∃ k : Nat, k ≤ n ∧ vi = .int .i64 k ∧ v8 = .int .i64 (lineAt first vs k) ∧ v3 = .slice (some ⟨W.heap.size, 0, none⟩) k n ∧
      wr.ownsRow W.heap.size 3 1 (.slice (some ⟨W.heap.size, 0, none⟩) k n) k ((straight first vs k).map (.int .i64)) ∧ Below W.heap.size W wr) (fun _ _ vi _ => n - (intOf vi).toNat)
  case atStart =>
    refine ⟨0, Nat.zero_le _, rfl, rfl, rfl, ?_, ?_⟩
    · exact World.ownsRow_made (W.drewN nq) _ n (Nat.le_refl _) (by unfold maxLen; omega) (by simp [size_madeCells])
    · exact (below_drewN (Below.refl _ _) nq).alloc (Nat.le_refl _) _
  case round =>
    obtain ⟨k, hk, rfl, rfl, rfl, hown, hBr⟩ := hrel
    by_cases hlt : k < n
    · have hkl : k < vs.length := by rw [HN.out]; exact hlt
      obtain ⟨nm, hA0, hA1⟩ := hval.out k hkl
      have hfr := hfW.out.below hBr hfW.out.lt
      have y0 : wr.cell? ⟨f, k * 2, none⟩ = some (.string nm) := (hfr.cell _).trans hA0
      have y1 : wr.cell? ⟨f, k * 2 + 1, none⟩ = some (.string vs[k]) := (hfr.cell _).trans hA1
      have hsz := hvs.out _ (List.getElem_mem hkl)
      have hls := hid (lineAt_succ first vs k hkl)
      have hss := hid (straight_succ first vs k)
      generalize lineAt first vs k = ln at hls hss ⊢
      have hlti : (k : Int) < (n : Int) := by omega
      have hrs := hBr.size
      have hWlt := (hown.lt W.heap.size rfl).2
      replace hown := hid hown
      replace hBr := hid hBr
      clear hfr hA0 hA1
      go_upto_region 16 with fail
      refine at_world (fun wa => RowAt wa wr.heap.size 57 #[.string nm, .string vs[k]] ∧ wa.ownsRow W.heap.size 3 1 (.slice (some ⟨W.heap.size, 0, none⟩) k n) k ((straight first vs k).map (.int .i64)) ∧ Below W.heap.size W wa) ?_ ?_
      · exact ⟨RowAt.new _ _ _, hown.out.alloc _, hBr.out.alloc hrs _⟩
      clear y0 y1 hown
      rintro wa ⟨hrb, hown, hBa⟩
      generalize hbe : wr.heap.size = b at hrb ⊢
      have hbW : Hid (b ≠ W.heap.size) := by show b ≠ W.heap.size; omega
      clear hWlt hrs hbe hBr
      have has := hBa.size
      obtain ⟨cnt, hcnt⟩ : ∃ cnt, Lib.countByte vs[k].data.toList 10 = cnt := ⟨_, rfl⟩
      have hcb : cnt ≤ 1048576 := by
        have h1 : Lib.countByte vs[k].data.toList 10 ≤ vs[k].data.toList.length := List.count_le_length
        have h2 : vs[k].data.toList.length = vs[k].size := by simp
        omega
      have hcbi : (cnt : Int) ≤ 1048576 := by omega
      have KC := hid (fun wx => Try.strings_Count_one vs[k] 10 wx)
      rw [hcnt] at KC
      have hnl : Hid (nextLine ln vs[k] = IntKind.i64.wrap (ln + (1 + (cnt : Int)))) := by show nextLine ln vs[k] = _; unfold nextLine; rw [hcnt]
      replace hrb := hid hrb
      replace hown := hid hown
      replace hBa := hid hBa
      clear hcnt hcb
      go_upto_region 17 with (at_builtin; refine wpList_append_fits _ rfl (.tmp 67) (.tmp 69) 45 rfl W.heap.size 3 i3 1 Try.underlying45 hi3.out hz1.out W.heap.size k n _ rfl (hown.out.alloc _) ⟨wa.heap.size, 0, none⟩ 1 1 [.int .i64 ln] rfl rfl (one_new rfl _ _) (by intro u hu; simp at hu; subst hu; rfl) (by omega) ?_; intro wc hownc hgrc; replace hownc := hid hownc; replace hgrc := hid hgrc)
      have hBc : Hid (Below W.heap.size W wc) := (hBa.out.alloc has _).trans ((Below.refl _ _).grown hgrc.out (hBa.out.alloc has _).size (fun j hj => by cases hj; exact Nat.le_refl _))
      have y1 : wc.cell? ⟨b, 1, none⟩ = some (.string vs[k]) := by
        have hra : RowAt (wa.alloc (.cells #[.int .i64 ln] 3)) b 57 #[.string nm, .string vs[k]] := hrb.out.below ((Below.refl _ _).alloc (Nat.le_refl _) _) hrb.out.lt
        have hrc : RowAt wc b 57 #[.string nm, .string vs[k]] := (hgrc.out.block b hra.lt (by intro e; exact hbW.out (Option.some.inj e))).trans hra
        exact hrc.cell 1
      clear hgrc hrb hBa hown has
      go_wp2_with (go_at_call 114; refine keepW (KC.out wc) ?_; rintro e rfl)
      go_roundw
      case rel =>
        refine ⟨k + 1, by omega, by go_num, ?_, rfl, ?_, hBc.out⟩
        · rw [hls.out, hnl.out]; first | rfl | simp only [IntKind.wrap_i64, wrap64]
        · rw [hss.out, List.map_append]; exact hownc.out
      case measure => simp [intOf]; omega
    · have hkn : k = n := by omega
      subst hkn
      replace hown := hid hown
      replace hBr := hid hBr
      go_wp2
      go_ret3
      exact ⟨⟨_, rfl, row_of_owns hown.out, hB.out.size⟩, hB.out.trans (hBr.out.mono hB.out.size)⟩

end Go.Proofs.Qxb6001690a
