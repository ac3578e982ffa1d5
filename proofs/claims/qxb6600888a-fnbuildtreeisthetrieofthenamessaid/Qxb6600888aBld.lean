import Derived.Test.Qxb6600888aBl1
import Derived.Test.Qxb6600888aBl4
namespace Go.Proofs.Qxb6600888a
open Go.RowKit
set_option linter.unusedVariables false
set_option linter.unusedSimpArgs false

theorem cx_of {N : List Str} {C A : List Nat} {w : World} {gt gl n : Nat} {v2 v3 v4 v5 v6 : Value} (hN : Names N) (hn : N.length = n) (hn4 : n ≤ 4096) (hlen : ∀ j, (nm N j).length ≤ 1048576)
    (hT : RowAt w gt 49 #[.slice (some ⟨gl, 0, none⟩) n n, .int .i64 0, v2, v3, v4, v5, v6]) (hL : RowAt w gl 53 ((List.range n).flatMap (dfc N C A)).toArray) : Cx N C A w gt gl n := by
  refine ⟨hN, hn, hn4, hlen, fun wx hb => (hb.cell hT.lt).trans (hT.cell 0), fun wx hb => (hb.cell hT.lt).trans (hT.cell 1), fun wx hb j hj f hf => ?_⟩
  rw [(hL.below hb hL.lt).cell, List.getElem?_toArray]
  exact flat_get (c := dfc N C A) (q := 5) (fun _ => rfl) (List.range n) j f j (by simp [hj]) hf

theorem S1.first {N : List Str} {C A : List Nat} {w wc : World} {gS q : Nat} (hown : wc.ownsRow w.heap.size 64 3 (.slice (some ⟨gS, 0, none⟩) 1 q) 1 (spc (rootSt N))) (hb : Below w.heap.size w wc) (h1 : 1 ≤ q) (h2 : q ≤ 1048576) :
    S1 N C A w 0 gS q wc.heap.size q (wc.heap.size + 1) q 1 [rootSt N] [] [nvOf (rootSt N) Dy.zero 0] ((wc.alloc (.cells (madeCells (ndc (nvOf (rootSt N) Dy.zero 0)).toArray (q * 8)) 56)).alloc (.cells (madeCells (hdc (rootSt N)).toArray q) 41)) := by
  refine ⟨Inv.start N C A, ⟨rfl, ?_⟩, ⟨rfl, ?_, ?_, ?_⟩, (hb.alloc hb.size _).alloc (by have := hb.size; simp; omega) _⟩
  · intro k s hs
    cases k with
    | zero => simp at hs; subst hs; rfl
    | succ k => simp at hs
  · simpa using (hown.alloc _).alloc _
  · have := made_own wc w.heap.size 56 (ndc (nvOf (rootSt N) Dy.zero 0)).toArray q hb.size h1 h2 (by show 0 < 8; omega)
    simpa [ndc_len] using this.alloc _
  · have := made_own (wc.alloc (.cells (madeCells (ndc (nvOf (rootSt N) Dy.zero 0)).toArray (q * 8)) 56)) w.heap.size 41 (hdc (rootSt N)).toArray q (by have := hb.size; simp; omega) h1 h2 (by show 0 < 1; omega)
    simpa [hdc_len] using this

theorem S1.four {N : List Str} {C A : List Nat} {w wx : World} {gS cS gN cN gH cH m : Nat} {ss : List St} {dd : List Dy} {nv : List Nv} (h : S1 N C A w m gS cS gN cN gH cH m ss dd nv wx) : S4 N C A w gN cN gH cH m ss dd m nv wx := by
  refine ⟨h.inv, h.mem.len, by rw [h.tab.1]; exact h.mem.len, ?_, h.mem.nd, h.mem.hd, h.below⟩
  intro k s d hs hd
  have hk : k < m := by rw [← h.mem.len]; exact (List.getElem?_eq_some_iff.1 hs).1
  rw [h.tab.2 k s hs, if_neg (by omega), List.getD_eq_getElem?_getD, hd]; rfl

set_option maxHeartbeats 4000000 in
set_option maxRecDepth 1000000 in
theorem build_w (gt gl n : Nat) (N : List Str) (C A : List Nat) (hN : Names N) (hn : N.length = n) (hn4 : n ≤ 4096) (hlen : ∀ j, (nm N j).length ≤ 1048576) (hA : ∀ j, A.getD j 0 < 4294967296) (w : World) (v2 v3 v4 v5 v6 : Value)
    (hT : RowAt w gt 49 #[.slice (some ⟨gl, 0, none⟩) n n, .int .i64 0, v2, v3, v4, v5, v6]) (hL : RowAt w gl 53 ((List.range n).flatMap (dfc N C A)).toArray) :
    Calls Try.prog 17 #[.pointer (some ⟨gt, 0, none⟩)] w fun e w' => e = .returned (.tuple #[]) ∧ ∃ (gN cN gH cH m : Nat) (ss : List St) (dd : List Dy) (nv : List Nv) (wx : World), S4 N C A w gN cN gH cH m ss dd 0 nv wx ∧ w' = (wx.setCell ⟨gt, 2, none⟩ (.slice (some ⟨gN, 0, none⟩) m cN)).setCell ⟨gt, 3, none⟩ (.slice (some ⟨gH, 0, none⟩) m cH) := by
  have CX : Hid (Cx N C A w gt gl n) := cx_of hN hn hn4 hlen hT hL
  have HA : Hid (∀ j, A.getD j 0 < 4294967296) := hA
  have hTx : Hid (∀ wx, Below w.heap.size w wx → RowAt wx gt 49 #[.slice (some ⟨gl, 0, none⟩) n n, .int .i64 0, v2, v3, v4, v5, v6]) := fun wx hb => hT.below hb hT.lt
  obtain ⟨i64, hi64, hz640, hz641, hz642⟩ := info_parts Try.info64
  obtain ⟨i56, hi56, hz560, hz561, hz562⟩ := info_parts Try.info56
  obtain ⟨i41, hi41, hz410, hz411, hz412⟩ := info_parts Try.info41
  obtain ⟨q, hq⟩ : ∃ q, q = n + 1 := ⟨_, rfl⟩
  have hw1 : IntKind.i64.wrap ((n : Int) + 1) = (q : Int) := by rw [wrap_small _ (by omega) (by omega)]; omega
  have mk64 : ∀ w : World, (Instr.makeSlice 62 (.int .i64 0) (.int .i64 (q : Int))).run Try.prog w = .ok (.slice (some ⟨w.heap.size, 0, none⟩) 0 q) (w.alloc (.cells (madeCells (Value.agg #[.int .i64 0, .int .i64 0, .int .i64 0]).cells (q * 3)) 64)) := by
    intro w
    have := run_make (P := Try.prog) w 62 64 i64 _ Try.underlying62 hi64 hz640 .i64 .i64 0 (q : Int) (by omega) (by omega) (by rw [hz642]; omega) (by omega)
    rw [hz641] at this
    simpa using this
  have mk56 : ∀ w : World, (Instr.makeSlice 44 (.int .i64 1) (.int .i64 (q : Int))).run Try.prog w = .ok (.slice (some ⟨w.heap.size, 0, none⟩) 1 q) (w.alloc (.cells (madeCells (ndc (nvOf (rootSt N) Dy.zero 0)).toArray (q * 8)) 56)) := by
    intro w
    have := run_make (P := Try.prog) w 44 56 i56 _ Try.underlying44 hi56 hz560 .i64 .i64 1 (q : Int) (by omega) (by omega) (by rw [hz562]; omega) (by omega)
    rw [hz561] at this
    exact this
  have mk41 : ∀ w : World, (Instr.makeSlice 31 (.int .i64 1) (.int .i64 (q : Int))).run Try.prog w = .ok (.slice (some ⟨w.heap.size, 0, none⟩) 1 q) (w.alloc (.cells (madeCells (hdc (rootSt N)).toArray (q * 1)) 41)) := by
    intro w
    have := run_make (P := Try.prog) w 31 41 i41 _ Try.underlying31 hi41 hz410 .i64 .i64 1 (q : Int) (by omega) (by omega) (by rw [hz412]; omega) (by omega)
    rw [hz411] at this
    exact this
  have hq1 : 0 + 1 ≤ q := by omega
  have hq2 : q ≤ 1048576 := by omega
  replace hq := hid hq
  replace hi64 := hid hi64
  replace hz641 := hid hz641
  replace hi56 := hid hi56
  replace hz561 := hid hz561
  replace hi41 := hid hi41
  replace hz411 := hid hz411
  replace hz640 := hid hz640
  replace hz642 := hid hz642
  replace hz560 := hid hz560
  replace hz562 := hid hz562
  replace hz410 := hid hz410
  replace hz412 := hid hz412
  have hTb : Hid (∀ wx, Below w.heap.size w wx → wx.cell? ⟨gt, 0, none⟩ = some (.slice (some ⟨gl, 0, none⟩) n n) ∧ wx.cell? ⟨gt, 1, none⟩ = some (.int .i64 0)) :=
    fun wx hb => ⟨(hb.cell hT.lt).trans (hT.cell 0), (hb.cell hT.lt).trans (hT.cell 1)⟩
  have hT0 : w.cell? ⟨gt, 0, none⟩ = some (.slice (some ⟨gl, 0, none⟩) n n) := hT.cell 0
  have hT0a : ∀ o, (w.alloc o).cell? ⟨gt, 0, none⟩ = some (.slice (some ⟨gl, 0, none⟩) n n) := fun o => (World.cell?_of_block (w := w) (Below.heap_alloc w o gt hT.lt)).trans hT0
  have hw0 : IntKind.i64.wrap 0 = 0 := by decide
  go_enter Try.func17, Try.ntmps17
  go_upto_region 0 with fail
  go_cut [2] (fun t wx => ∃ gS, t = .slice (some ⟨gS, 0, none⟩) 1 q ∧ wx.ownsRow w.heap.size 64 3 t 1 (spc (rootSt N)) ∧ Below w.heap.size w wx)
  case first =>
    have own1 : ((w.alloc (.cells (madeCells #[.int .i64 0, .int .i64 0, .int .i64 0] (q * 3)) 64)).alloc (.cells #[.int .i64 0, .int .i64 n, .int .i64 0] 64)).drew.ownsRow w.heap.size 64 3 (.slice (some ⟨w.heap.size, 0, none⟩) 0 q) 0 [] :=
      ((World.ownsRow_made w _ q (Nat.le_refl _) (by unfold maxLen; omega) (size_madeCells _ _)).alloc _).drew
    have own2 : ((w.alloc (.cells #[.int .i64 0, .int .i64 n, .int .i64 0] 64)).alloc (.cells (madeCells #[.int .i64 0, .int .i64 0, .int .i64 0] (q * 3)) 64)).drew.ownsRow w.heap.size 64 3 (.slice (some ⟨w.heap.size + 1, 0, none⟩) 0 q) 0 [] := by
      have := World.ownsRow_made (base := w.heap.size) (e := 64) (size := 3) (w.alloc (.cells #[.int .i64 0, .int .i64 n, .int .i64 0] 64)) (madeCells #[.int .i64 0, .int .i64 0, .int .i64 0] (q * 3)) q (by simp) (by unfold maxLen; omega) (size_madeCells _ _)
      simp only [World.size_alloc] at this
      exact this.drew
    have cc1 : ∀ j u, (sp0 n)[j]? = some u → ((w.alloc (.cells (madeCells #[.int .i64 0, .int .i64 0, .int .i64 0] (q * 3)) 64)).alloc (.cells #[.int .i64 0, .int .i64 n, .int .i64 0] 64)).drew.cell? ((⟨w.heap.size + 1, 0, none⟩ : Addr).add j) = some u := by
      have := RowAt.new (w.alloc (.cells (madeCells #[.int .i64 0, .int .i64 0, .int .i64 0] (q * 3)) 64)) 64 (sp0 n).toArray
      simp only [World.size_alloc] at this
      exact new_cells this
    have cc2 : ∀ j u, (sp0 n)[j]? = some u → ((w.alloc (.cells #[.int .i64 0, .int .i64 n, .int .i64 0] 64)).alloc (.cells (madeCells #[.int .i64 0, .int .i64 0, .int .i64 0] (q * 3)) 64)).drew.cell? ((⟨w.heap.size, 0, none⟩ : Addr).add j) = some u := by
      have h1 := RowAt.new w 64 (sp0 n).toArray
      have h2 : RowAt ((w.alloc (.cells (sp0 n).toArray 64)).alloc (.cells (madeCells #[.int .i64 0, .int .i64 0, .int .i64 0] (q * 3)) 64)) w.heap.size 64 (sp0 n).toArray := (Below.heap_alloc _ _ _ (by simp)).trans h1
      exact new_cells h2
    replace own1 := hid own1
    replace own2 := hid own2
    replace cc1 := hid cc1
    replace cc2 := hid cc2
    go_region_law (first
      | (refine step_append_fits rfl _ _ 62 rfl w.heap.size 64 i64 3 Try.underlying62 hi64.out hz641.out _ 0 q [] rfl own1.out _ 1 1 (sp0 n) rfl rfl cc1.out (sp0_one n) hq1 ?_; intro wn on gn)
      | (refine step_append_fits rfl _ _ 62 rfl w.heap.size 64 i64 3 Try.underlying62 hi64.out hz641.out _ 0 q [] rfl own2.out _ 1 1 (sp0 n) rfl rfl cc2.out (sp0_one n) hq1 ?_; intro wn on gn))
    all_goals (go_wp2_with fail; go_meet)
    all_goals (case rel =>
      refine ⟨_, rfl, ?_, ?_⟩
      · have e : sp0 n = spc (rootSt N) := by rw [← hn]; rfl
        rw [← e]; exact on
      · exact ((((Below.refl _ _).alloc (Nat.le_refl _) _).alloc (by simp) _).drew).trans (grown_below gn (by omega) (by simp; omega)))
  case rest =>
    obtain ⟨gS, rfl, hown, hb⟩ := hcut
    have hTc := hTb.out _ hb
    obtain ⟨hc0, hc1⟩ := hTc
    have hTa : ∀ o, (wc.alloc o).cell? ⟨gt, 0, none⟩ = some (.slice (some ⟨gl, 0, none⟩) n n) := fun o => (hTb.out _ (hb.alloc hb.size o)).1
    replace hown := hid hown
    replace hb := hid hb
    clear hT0 hT0a
    go_wp2_with fail
    refine at_world (fun wx => S1 N C A w 0 gS q wc.heap.size q (wc.heap.size + 1) q 1 [rootSt N] [] [nvOf (rootSt N) Dy.zero 0] wx) (S1.first hown.out hb.out (by omega) (by omega)) ?_
    intro w0 HW
    refine L1 CX.out w0 HW _ _ _ _ _ _ _ _ _ _ _ _ _ _ _ _ _ _ _ _ _ _ _ _ _ _ _ _ _ _ _ _ _ _ _ _ _ _ _ _ _ _ _ _ _ _ _ _ _ _ _ _ _ _ _ _ _ _ _ _ _ _ _ _ _ _ _ _ _ _ _ _ _ _ _ _ _ _ _ _ _ _ _ _ _ _ _ _ _ _ _ _ _ _ _ _ _ _ _ _ _ _ _ _ _ _ _ _ _ _ _ _ _ _ _ _ _ _ _ _ _ _ _ _ _ _ _ _ _ _ _ _ _ _ _ _ _ _ _ _ _ _ _ _ _ _ _ _ _ _ _ _ _ _ _ _ _ _ _ _ _ _ _ _ _ _ _ _ _ _ _ _ _ _ _ _ _ _ _ _ _ _ _ _ _ _ _ _ _ _ _ _ _ _ _ _ _ _ _ _ _ _ _ _ _ _ _ _ _ _ _ _ _ _ _ _ _ _ _ _ _ _ _ _ _ _ _ _ _ _ _ _ _ _ _ _ _ _ _ _ _ _ _ _ _ _ _ _ _ _ _ _ _ _ _ _ _ _ _ _ _ _ _ _ _ _ _ _ _ _ _ _ _ _ _ _ _ _ _ _ _ _ _ _ _ _ _ _ _ _ _ ?_
    intros
    rename_i gS' cS' gN cN gH cH m ss dd nv wz HS
    have hmb : m ≤ 8193 := by have h1 := HS.inv.small; have h2 := HS.mem.len; have h3 := CX.out.hn; omega
    have hm1 : 1 ≤ m := by have h1 := HS.inv.tot; have h2 := HS.mem.len; omega
    have hwm : IntKind.i64.wrap ((m : Int) - 1) = (m : Int) - 1 := wrap_small _ (by omega) (by omega)
    have H4 : Hid (S4 N C A w gN cN gH cH m ss dd m nv wz) := HS.four
    clear HS HW hc0 hc1 hTa hown hb
    go_wp2_with fail
    refine L4 HA.out hmb wz H4.out _ _ _ _ _ _ _ _ _ _ _ _ _ _ _ _ _ _ _ _ _ _ _ _ _ _ _ _ _ _ _ _ _ _ _ _ _ _ _ _ _ _ _ _ _ _ _ _ _ _ _ _ _ _ _ _ _ _ _ _ _ _ _ _ _ _ _ _ _ _ _ _ _ _ _ _ _ _ _ _ _ _ _ _ _ _ _ _ _ _ _ _ _ _ _ _ _ _ _ _ _ _ _ _ _ _ _ _ _ _ _ _ _ _ _ _ _ _ _ _ _ _ _ _ _ _ _ _ _ _ _ _ _ _ _ _ _ _ _ _ _ _ _ _ _ _ _ _ _ _ _ _ _ _ _ _ _ _ _ _ _ _ _ _ _ _ _ _ _ _ _ _ _ _ _ _ _ _ _ _ _ _ _ _ _ _ _ _ _ _ _ _ _ _ _ _ _ _ _ _ _ _ _ _ _ _ _ _ _ _ _ _ _ _ _ _ _ _ _ _ _ _ _ _ _ _ _ _ _ _ _ _ _ _ _ _ _ _ _ _ _ _ _ _ _ _ _ _ _ _ _ _ _ _ _ _ _ _ _ _ _ _ _ _ _ _ _ _ _ _ _ _ _ _ _ _ _ _ _ _ _ _ _ _ _ _ _ _ _ _ _ _ ?_
    intros
    rename_i nv' wy HF
    have hrow := hTx.out wy HF.below
    have hg2 : wy.cell? ⟨gt, 2, none⟩ = some v2 := hrow.cell 2
    have hg3 : wy.cell? ⟨gt, 3, none⟩ = some v3 := hrow.cell 3
    have hz2 : wy.frozen? ⟨gt, 2, none⟩ = false := hrow.frozen 2
    have hz3 : wy.frozen? ⟨gt, 3, none⟩ = false := hrow.frozen 3
    replace HF := hid HF
    clear hrow H4
    go_wp2_with fail
    first
      | (go_end0; exact ⟨rfl, gN, cN, gH, cH, m, ss, dd, nv', wy, HF.out, rfl⟩)
      | (exact bodyPost_ret (results_none rfl _ _ _) rfl ⟨rfl, gN, cN, gH, cH, m, ss, dd, nv', wy, HF.out, rfl⟩)

end Go.Proofs.Qxb6600888a
