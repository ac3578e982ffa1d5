import Derived.Test.Qxb6600888aTr3
namespace Go.Proofs.Qxb6600888a
open Go.RowKit
set_option linter.unusedVariables false
set_option linter.unusedSimpArgs false

/-! The walk in order: the stack. -/
theorem SW_append (n : Nat) (ss : List St) (a b : List Nat) : SW n ss (a ++ b) = SW n ss a + SW n ss b := by
  induction a with
  | nil => simp [SW]
  | cons k a ih => simp only [List.cons_append, SW, ih]; omega
theorem SW_kids {N : List Str} {P : Str} {ss : List St} {f : Nat} (n : Nat) (hf : 0 < f) : ∀ {k lo hi : Nat}, Kids N P ss f k lo hi → SW n ss ((List.range k).map (f + ·)) + k = 2 * (hi - lo)
  | 0, lo, hi, h => by have : lo = hi := h; subst this; simp [SW]
  | k + 1, lo, hi, ⟨c, h1, h2, _, h4, h5, _⟩ => by
    have ih := SW_kids n hf h5
    have hle := Kids.le h5
    have hlt := h2.lt
    rw [List.range_succ, List.map_append, SW_append]
    simp only [List.map_cons, List.map_nil, SW, h1]
    have : wk n (f + k) c = wt c := by unfold wk; rw [if_neg (by omega)]
    rw [this]; unfold wt; omega
/-- Popping a node and pushing its children. -/
theorem stack_step {N : List Str} {C A : List Nat} {n m : Nat} {ss : List St} {dd : List Dy} {nv : List Nv} (h : Fin N C A m ss dd nv) (hN : Names N) (hn : N.length = n) {k : Nat} {ks : List Nat} {lo hi : Nat} (hst : Stk ss (k :: ks) lo hi) (hkm : k < m) :
    ∃ (s : St) (d : Dy), ss[k]? = some s ∧ dd[k]? = some d ∧ s.lo = lo ∧ Stk ss ((List.range d.count).map (d.first + ·) ++ ks) (lo' N s) hi ∧ SW n ss ((List.range d.count).map (d.first + ·) ++ ks) < SW n ss (k :: ks) := by
  obtain ⟨s, h1, h2, h3⟩ := hst
  obtain ⟨s', d, h1', hd, hdn, _⟩ := h.get hkm
  rw [h1] at h1'; cases h1'
  refine ⟨s, d, h1, hd, h2, Stk.kids hdn.kids h3, ?_⟩
  have hw := SW_kids n (by have := hdn.gt; omega) hdn.kids
  rw [SW_append]
  simp only [SW, h1]
  unfold wk
  by_cases hk : k = 0
  · subst hk
    rw [h.inv.root] at h1; cases h1
    rw [if_pos rfl]
    rw [lo'_root hN] at hw
    have : (rootSt N).hi = n := hn
    rw [this] at hw; omega
  · rw [if_neg hk]
    have hg := h.inv.good k s (by omega) h1
    have hlt := hg.lt
    unfold wt
    cases hdf : d.dfn with
    | true =>
      have : lo' N s = s.lo + 1 := by unfold lo'; rw [← hdn.dfn, hdf]; rfl
      rw [this] at hw; omega
    | false =>
      have h2 := hdn.two (by omega) hdf
      have : lo' N s = s.lo := by unfold lo'; rw [← hdn.dfn, hdf]; rfl
      rw [this] at hw; omega

theorem SW_len {N : List Str} {C A : List Nat} {n m : Nat} {ss : List St} {dd : List Dy} {nv : List Nv} (h : Fin N C A m ss dd nv) : ∀ {ks : List Nat} {lo hi : Nat}, Stk ss ks lo hi → ks.length ≤ SW n ss ks
  | [], _, _, _ => by simp [SW]
  | k :: ks, lo, hi, ⟨s, h1, h2, h3⟩ => by
    have ih := SW_len (n := n) h h3
    simp only [SW, h1, List.length_cons]
    unfold wk
    by_cases hk : k = 0
    · rw [if_pos hk]; omega
    · rw [if_neg hk]
      have hlt := (h.inv.good k s (by omega) h1).lt
      unfold wt; omega
theorem Stk.lt {ss : List St} : ∀ {ks : List Nat} {lo hi : Nat}, Stk ss ks lo hi → ∀ k ∈ ks, k < ss.length
  | [], _, _, _, k, hk => by cases hk
  | k0 :: ks, _, _, ⟨s, h1, _, h3⟩, k, hk => by
    cases hk with
    | head => exact (List.getElem?_eq_some_iff.1 h1).1
    | tail _ hk => exact Stk.lt h3 k hk

def iv (k : Nat) : Value := .int .i64 (k : Int)
/-- The stack in memory; the full names stand. -/
structure SK (N : List Str) (ss : List St) (w : World) (m gf gs cs : Nat) (l : List Nat) (wx : World) : Prop where
  own : wx.ownsRow w.heap.size 3 1 (.slice (some ⟨gs, 0, none⟩) l.length cs) l.length (l.reverse.map iv)
  fl : Fl N ss w m gf m wx
section
variable {N : List Str} {ss : List St} {w : World} {m gf gs cs : Nat} {l : List Nat} {wx wy : World}
theorem SK.below' (h : SK N ss w m gf gs cs l wx) (hb : Below wx.heap.size wx wy) : SK N ss w m gf gs cs l wy := ⟨own_below h.own hb, h.fl.below' hb⟩
theorem SK.top {k : Nat} (h : SK N ss w m gf gs cs (k :: l) wx) : wx.cell? ⟨gs, l.length, none⟩ = some (iv k) := by
  have := h.own.cellAt l.length (by simp)
  rw [this]; simp
theorem SK.pop {k : Nat} (h : SK N ss w m gf gs cs (k :: l) wx) : SK N ss w m gf gs cs l wx := by
  obtain ⟨hB, cur, h1, h2, h3, h4, h5⟩ := own_at h.own
  refine ⟨⟨by simp, .inr ⟨gs, cs, cur, rfl, hB, h1, by simp at h3; omega, h4, h5, ?_⟩⟩, h.fl⟩
  have : cur.toList.take (l.length * 1) = (cur.toList.take ((k :: l).length * 1)).take (l.length * 1) := by
    rw [List.take_take]; congr 1; simp
  rw [this, h2]
  simp
theorem SK.push {k gs' cs' : Nat} (h : SK N ss w m gf gs cs l wx) (ho : wy.ownsRow w.heap.size 3 1 (.slice (some ⟨gs', 0, none⟩) (l.length + 1) cs') (l.length + 1) (l.reverse.map iv ++ [iv k])) (hk : Kept (· = gs) wx wy) : SK N ss w m gf gs' cs' (k :: l) wy := by
  refine ⟨by simpa using ho, ?_⟩
  obtain ⟨arr, r1, r2, r3⟩ := h.fl.row
  have hne : gf ≠ gs := by
    rintro rfl
    obtain ⟨_, cur, h1, _⟩ := own_at h.own
    rw [r1] at h1; cases h1
  exact ⟨⟨arr, r1.kept hk hne, r2, r3⟩, h.fl.big, h.fl.below.trans (hk.below h.fl.below.size (fun j hj e => by have := (own_at h.own).1; omega))⟩
theorem SK.rowne {e : Nat} {g : Nat} {arr : Array Value} (h : SK N ss w m gf gs cs l wx) (hr : RowAt wx g e arr) (he : e ≠ 3) : g ≠ gs := by
  rintro rfl
  obtain ⟨_, cur, h1, _⟩ := own_at h.own
  rw [hr] at h1; cases h1; exact he rfl
end
theorem pop_slice (gs L c : Nat) (hc : L + 1 ≤ c) (hm : c ≤ maxLen) (w : World) : (Instr.slice 59 (.slice (some ⟨gs, 0, none⟩) (L + 1) c) none (some (.int .i64 (L : Int))) none).run Try.prog w = .ok (.slice (some ⟨gs, 0, none⟩) L c) w := by
  have hsz : (sizeOf (Try.prog.elem 59)).run Try.prog w = .ok 1 w := by
    have e : Try.prog.elem 59 = 3 := by kernel_rfl
    rw [e]; exact Try.sizeOf3 w
  have ht : Try.prog.underlying 59 = some (.slice (Try.prog.elem 59)) := by
    have e : Try.prog.elem 59 = 3 := by kernel_rfl
    rw [e]; exact Try.underlying59
  rw [run_slice_h (P := Try.prog) w 59 (some ⟨gs, 0, none⟩) (L + 1) c ht .i64 L (by omega) (by omega), hsz]
  simp only [Result.andThen, sliced, Int.toNat_natCast]
  rw [if_neg (by omega)]
  simp [Addr.add_lit]

end Go.Proofs.Qxb6600888a
