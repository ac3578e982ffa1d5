import Derived.Test.Qxb6600888aTr2
import Derived.Test.Qxb6600888aTr4
import Derived.Test.Qxb6600888aTr6
import Derived.Test.Qxb6600888aBla
namespace Go.Proofs.Qxb6600888a
open Go.RowKit
set_option linter.unusedVariables false
set_option linter.unusedSimpArgs false

theorem fl_start {N : List Str} {ss : List St} {w wx : World} {m : Nat} (hr : ss[0]? = some (rootSt N)) (hb : Below w.heap.size w wx) : Fl N ss w m wx.heap.size 1 (wx.alloc (.cells (madeCells #[.string ByteArray.empty] m) 9)) := by
  refine ⟨⟨_, RowAt.new _ _ _, size_madeCells _ _, fun j hj => ?_⟩, hb.size, hb.alloc hb.size _⟩
  rw [← Array.getElem?_toList, toList_madeCells_one, List.getElem?_replicate, if_pos hj]
  congr 2
  by_cases h : j < 1
  · rw [if_pos h]
    obtain rfl : j = 0 := by omega
    have : fu N ss 0 = [] := by unfold fu; rw [hr]; rfl
    rw [this]; rfl
  · rw [if_neg h]; rfl
theorem sk_start {N : List Str} {ss : List St} {w wx : World} {m gf : Nat} (hf : Fl N ss w m gf m wx) (h1 : 1 ≤ m) (h2 : m ≤ 8193) : SK N ss w m gf wx.heap.size m [0] (wx.alloc (.cells (madeCells #[.int .i64 0] m) 3)) := by
  refine ⟨?_, hf.below' ((Below.refl _ _).alloc (Nat.le_refl _) _)⟩
  have := made_own wx w.heap.size 3 #[.int .i64 0] m hf.below.size h1 (by omega) (by show 0 < 1; omega)
  simpa [iv] using this

set_option maxHeartbeats 8000000 in
set_option maxRecDepth 1000000 in
theorem isTrie_w {N : List Str} {C A : List Nat} {w : World} {n m : Nat} {ss : List St} {dd : List Dy} {nv : List Nv} {go gH cH gC gA cn : Nat} {an : Option Addr} (ck : Ck N C A w n m ss dd nv go gH gC gA an) :
    Calls Try.prog 12 #[.slice (some ⟨go, 0, none⟩) m m, .slice (some ⟨gH, 0, none⟩) m cH, .slice an n cn, .slice (some ⟨gC, 0, none⟩) n n, .slice (some ⟨gA, 0, none⟩) n n] w fun e w' => e = .returned (.bool true) ∧ Below w.heap.size w w' := by
  have CK : Hid (Ck N C A w n m ss dd nv go gH gC gA an) := ck
  have hmb := ck.mb
  have hn4 := ck.hn4
  have hm1 := ck.fin.pos
  have hms : m ≤ 2 * n + 1 := by have := ck.fin.small; rw [ck.hn] at this; exact this
  obtain ⟨d0, hr0, hd0, hf0, _, hv0⟩ := ck.fin.root ck.hN
  have q0 : w.cell? ⟨go, 0, none⟩ = some (.string (bs [])) := ck.node w (Below.refl _ _) 0 _ hv0 0 (by omega)
  have q1 : w.cell? ⟨go, 1, none⟩ = some (.int .i32 1) := by
    have := ck.node w (Below.refl _ _) 0 _ hv0 1 (by omega)
    rw [show 0 * 8 + 1 = 1 by omega] at this
    rw [this]; show some (Value.int .i32 ((d0.first : Nat) : Int)) = _; rw [hf0]; rfl
  have hq0 : (bs []).toList.isEmpty = true := by rw [Lib.toList_data]; rfl
  have e1 : ((m : Int) == 0) = false := beq_eq_false_iff_ne.2 (by omega)
  have e2 : ((m : Int) != (m : Int)) = false := by simp
  have w1 : IntKind.i64.wrap (2 * (n : Int)) = 2 * (n : Int) := wrap_small _ (by omega) (by omega)
  have w2 : IntKind.i64.wrap (2 * (n : Int) + 1) = 2 * (n : Int) + 1 := wrap_small _ (by omega) (by omega)
  have e3 : ¬ 2 * (n : Int) + 1 < (m : Int) := by omega
  have hm0 : (0 : Int) < (m : Int) := by omega
  have e4 : ((n : Int) != (n : Int)) = false := by simp
  have HR : Hid (ss[0]? = some (rootSt N)) := hr0
  clear ck hr0 hd0 hf0 hv0 hms
  go_enter Try.func12, Try.ntmps12
  go_wp2_with fail
  refine T1 CK.out w (Below.refl _ _) _ _ _ _ _ _ _ _ _ _ _ _ _ _ _ _ _ _ _ _ _ _ _ _ _ _ _ _ _ _ _ _ _ _ _ _ _ _ _ _ _ _ _ _ _ _ _ _ _ _ _ _ _ _ _ _ _ _ _ _ _ _ _ _ _ _ _ _ _ _ _ _ _ _ _ _ _ _ _ _ _ _ _ _ _ _ _ _ _ _ _ _ _ _ _ _ _ _ _ _ _ _ _ _ _ _ _ _ _ _ _ _ _ _ _ _ _ _ _ _ _ _ _ _ _ _ _ _ _ _ _ _ _ _ _ _ _ _ _ _ _ _ _ _ _ _ _ _ _ _ _ _ _ _ _ _ _ _ _ _ _ _ _ _ _ _ _ _ _ _ _ _ _ _ _ _ _ _ _ _ _ _ _ _ _ _ _ _ _ _ _ _ _ _ _ _ _ _ _ _ _ _ _ _ _ _ _ _ _ _ _ _ _ _ _ _ _ _ _ _ _ _ _ _ _ _ _ _ _ _ _ _ _ _ _ _ _ _ _ _ _ _ _ _ _ _ _ _ _ _ _ _ _ _ _ _ _ _ _ _ _ _ _ _ _ _ _ _ _ _ _ _ _ _ _ _ _ _ _ _ _ _ _ _ _ _ _ _ _ _ _ _ _ _ _ _ _ _ _ _ _ _ _ _ _ _ _ _ _ _ _ _ _ _ _ _ _ _ _ _ _ _ _ _ _ _ _ _ _ _ _ _ _ _ _ _ _ _ _ _ _ _ _ _ _ _ _ _ _ _ _ _ _ _ _ _ _ _ _ _ _ ?_
  intros
  rename_i wz HB
  obtain ⟨p, hp⟩ : ∃ p, m = p + 1 := ⟨m - 1, by omega⟩
  obtain ⟨s, d, hs, hd, hdn, hv⟩ := CK.out.fin.get (show p < m by omega)
  have hlast : d.first + d.count = m := CK.out.fin.last (by rw [show m - 1 = p by omega]; exact hd)
  have c1 : wz.cell? ⟨go, p * 8 + 1, none⟩ = some (.int .i32 (d.first : Int)) := CK.out.node wz HB p _ hv 1 (by omega)
  have c2 : wz.cell? ⟨go, p * 8 + 2, none⟩ = some (.int .i32 (d.count : Int)) := CK.out.node wz HB p _ hv 2 (by omega)
  generalize d.first = f at *
  generalize d.count = k at *
  have w3 : IntKind.i64.wrap (f : Int) = (f : Int) := wrap_small _ (by omega) (by omega)
  have w4 : IntKind.i64.wrap (k : Int) = (k : Int) := wrap_small _ (by omega) (by omega)
  have w5 : IntKind.i64.wrap ((f : Int) + (k : Int)) = (m : Int) := by rw [wrap_small _ (by omega) (by omega)]; omega
  have w6 : IntKind.i64.wrap ((m : Int) - 1) = (p : Int) := by rw [wrap_small _ (by omega) (by omega)]; omega
  have hpm : (p : Int) < (m : Int) := by omega
  have hp0 : (0 : Int) ≤ (p : Int) := by omega
  replace HB := hid HB
  clear hs hd hdn hv hlast hp q0 q1
  go_wp2_with fail
  go_quiet (fail)
  go_upto_region 17 with fail
  refine at_world (fun wx => Below w.heap.size w wx) (below_drewN HB.out _) ?_
  intro wa HA
  have hmk := run_make_row' (P := Try.prog) 22 9 (.string ByteArray.empty) 16 Try.underlying22 Try.info9 rfl .i64 .i64 m (by omega) (by omega)
  have HFS : Hid (Fl N ss w m wa.heap.size 1 (wa.alloc (.cells (madeCells #[.string ByteArray.empty] m) 9))) := fl_start HR.out HA
  clear HB c1 c2 HA
  go_wp2_with fail
  refine at_world (fun wx => Fl N ss w m wa.heap.size 1 wx) HFS.out ?_
  intro wb HB
  generalize wa.heap.size = gf at HB ⊢
  refine T2 CK.out wb HB _ _ _ _ _ _ _ _ _ _ _ _ _ _ _ _ _ _ _ _ _ _ _ _ _ _ _ _ _ _ _ _ _ _ _ _ _ _ _ _ _ _ _ _ _ _ _ _ _ _ _ _ _ _ _ _ _ _ _ _ _ _ _ _ _ _ _ _ _ _ _ _ _ _ _ _ _ _ _ _ _ _ _ _ _ _ _ _ _ _ _ _ _ _ _ _ _ _ _ _ _ _ _ _ _ _ _ _ _ _ _ _ _ _ _ _ _ _ _ _ _ _ _ _ _ _ _ _ _ _ _ _ _ _ _ _ _ _ _ _ _ _ _ _ _ _ _ _ _ _ _ _ _ _ _ _ _ _ _ _ _ _ _ _ _ _ _ _ _ _ _ _ _ _ _ _ _ _ _ _ _ _ _ _ _ _ _ _ _ _ _ _ _ _ _ _ _ _ _ _ _ _ _ _ _ _ _ _ _ _ _ _ _ _ _ _ _ _ _ _ _ _ _ _ _ _ _ _ _ _ _ _ _ _ _ _ _ _ _ _ _ _ _ _ _ _ _ _ _ _ _ _ _ _ _ _ _ _ _ _ _ _ _ _ _ _ _ _ _ _ _ _ _ _ _ _ _ _ _ _ _ _ _ _ _ _ _ _ _ _ _ _ _ _ _ _ _ _ _ _ _ _ _ _ _ _ _ _ _ _ _ _ _ _ _ _ _ _ _ _ _ _ _ _ _ _ _ _ _ _ _ _ _ _ _ _ _ _ _ _ _ _ _ _ _ _ _ _ _ _ _ _ _ _ _ _ _ _ _ _ ?_
  intros
  rename_i wc HC
  obtain ⟨i3, hi3, hz0, hz1, hz2⟩ := info_parts Try.info3
  have mk3 : ∀ w : World, (Instr.makeSlice 59 (.int .i64 1) (.int .i64 (m : Int))).run Try.prog w = .ok (.slice (some ⟨w.heap.size, 0, none⟩) 1 m) (w.alloc (.cells (madeCells #[.int .i64 0] m) 3)) := by
    intro w
    have := run_make (P := Try.prog) w 59 3 i3 _ Try.underlying59 hi3 hz0 .i64 .i64 1 (m : Int) (by omega) (by omega) (by rw [hz2]; omega) (by omega)
    rw [hz1, Nat.mul_one] at this
    exact this
  have HSK : Hid (SK N ss w m gf wc.heap.size m [0] (wc.alloc (.cells (madeCells #[.int .i64 0] m) 3))) := sk_start HC hm1 hmb
  clear hi3 hz0 hz1 hz2 HC hmk HFS HB
  go_wp2_with fail
  refine at_world (fun wx => SK N ss w m gf wc.heap.size m [0] wx) HSK.out ?_
  intro wd HD
  generalize wc.heap.size = gs at HD ⊢
  refine T4 CK.out wd HD _ _ _ _ _ _ _ _ _ _ _ _ _ _ _ _ _ _ _ _ _ _ _ _ _ _ _ _ _ _ _ _ _ _ _ _ _ _ _ _ _ _ _ _ _ _ _ _ _ _ _ _ _ _ _ _ _ _ _ _ _ _ _ _ _ _ _ _ _ _ _ _ _ _ _ _ _ _ _ _ _ _ _ _ _ _ _ _ _ _ _ _ _ _ _ _ _ _ _ _ _ _ _ _ _ _ _ _ _ _ _ _ _ _ _ _ _ _ _ _ _ _ _ _ _ _ _ _ _ _ _ _ _ _ _ _ _ _ _ _ _ _ _ _ _ _ _ _ _ _ _ _ _ _ _ _ _ _ _ _ _ _ _ _ _ _ _ _ _ _ _ _ _ _ _ _ _ _ _ _ _ _ _ _ _ _ _ _ _ _ _ _ _ _ _ _ _ _ _ _ _ _ _ _ _ _ _ _ _ _ _ _ _ _ _ _ _ _ _ _ _ _ _ _ _ _ _ _ _ _ _ _ _ _ _ _ _ _ _ _ _ _ _ _ _ _ _ _ _ _ _ _ _ _ _ _ _ _ _ _ _ _ _ _ _ _ _ _ _ _ _ _ _ _ _ _ _ _ _ _ _ _ _ _ _ _ _ _ _ _ _ _ _ _ _ _ _ _ _ _ _ _ _ _ _ _ _ _ _ _ _ _ _ _ _ _ _ _ _ _ _ _ _ _ _ _ _ _ _ _ _ _ _ _ _ _ _ _ _ _ _ _ _ _ _ _ _ _ _ _ _ _ _ _ _ _ _ _ _ ?_
  intros
  rename_i we HE
  clear mk3 HSK HD
  go_wp2_with fail
  refine T6 CK.out we HE _ _ _ _ _ _ _ _ _ _ _ _ _ _ _ _ _ _ _ _ _ _ _ _ _ _ _ _ _ _ _ _ _ _ _ _ _ _ _ _ _ _ _ _ _ _ _ _ _ _ _ _ _ _ _ _ _ _ _ _ _ _ _ _ _ _ _ _ _ _ _ _ _ _ _ _ _ _ _ _ _ _ _ _ _ _ _ _ _ _ _ _ _ _ _ _ _ _ _ _ _ _ _ _ _ _ _ _ _ _ _ _ _ _ _ _ _ _ _ _ _ _ _ _ _ _ _ _ _ _ _ _ _ _ _ _ _ _ _ _ _ _ _ _ _ _ _ _ _ _ _ _ _ _ _ _ _ _ _ _ _ _ _ _ _ _ _ _ _ _ _ _ _ _ _ _ _ _ _ _ _ _ _ _ _ _ _ _ _ _ _ _ _ _ _ _ _ _ _ _ _ _ _ _ _ _ _ _ _ _ _ _ _ _ _ _ _ _ _ _ _ _ _ _ _ _ _ _ _ _ _ _ _ _ _ _ _ _ _ _ _ _ _ _ _ _ _ _ _ _ _ _ _ _ _ _ _ _ _ _ _ _ _ _ _ _ _ _ _ _ _ _ _ _ _ _ _ _ _ _ _ _ _ _ _ _ _ _ _ _ _ _ _ _ _ _ _ _ _ _ _ _ _ _ _ _ _ _ _ _ _ _ _ _ _ _ _ _ _ _ _ _ _ _ _ _ _ _ _ _ _ _ _ _ _ _ _ _ _ _ _ _ _ _ _ _ _ _ _ _ _ _ _ _ _ _ _ _ _ _ ?_
  intros
  rename_i wf HF
  replace HF := hid HF
  go_wp2_with fail
  go_ret
  exact ⟨rfl, HF.out⟩

end Go.Proofs.Qxb6600888a
