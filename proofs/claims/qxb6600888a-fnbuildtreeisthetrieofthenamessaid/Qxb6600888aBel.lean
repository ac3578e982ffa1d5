import Derived.Test.Qxb6600888aBl2
import Derived.Laws.BitsAllLaws
namespace Go.Proofs.Qxb6600888a
open Go.RowKit
set_option linter.unusedVariables false
set_option linter.unusedSimpArgs false

/-- All of A's numbers from lo up to hi, together. -/
def orA (A : List Nat) (lo : Nat) : Nat → Nat
  | 0 => 0
  | h + 1 => if lo ≤ h then orA A lo h ||| A.getD h 0 else 0
theorem orA_nil (A : List Nat) {lo hi : Nat} (h : hi ≤ lo) : orA A lo hi = 0 := by
  cases hi with
  | zero => rfl
  | succ h' => unfold orA; rw [if_neg (by omega)]
theorem orA_succ (A : List Nat) {lo h : Nat} (hl : lo ≤ h) : orA A lo (h + 1) = orA A lo h ||| A.getD h 0 := by
  rw [orA, if_pos hl]
theorem orA_one (A : List Nat) (lo : Nat) : orA A lo (lo + 1) = A.getD lo 0 := by
  rw [orA_succ A (Nat.le_refl _), orA_nil A (Nat.le_refl _), Nat.zero_or]
theorem orA_split (A : List Nat) {lo mid : Nat} (h1 : lo ≤ mid) : ∀ {hi : Nat}, mid ≤ hi → orA A lo mid ||| orA A mid hi = orA A lo hi := by
  intro hi h2
  induction hi with
  | zero =>
    have : mid = 0 := by omega
    subst this
    rw [orA_nil A (Nat.le_refl _), Nat.or_zero]
  | succ h ih =>
    by_cases e : mid = h + 1
    · subst e; rw [orA_nil A (Nat.le_refl _), Nat.or_zero]
    · rw [orA_succ A (show mid ≤ h by omega), orA_succ A (show lo ≤ h by omega), ← ih (by omega), Nat.or_assoc]
theorem orA_lt (A : List Nat) (hA : ∀ j, A.getD j 0 < 4294967296) (lo : Nat) : ∀ hi, orA A lo hi < 4294967296
  | 0 => by unfold orA; omega
  | h + 1 => by
    unfold orA
    split
    · exact Nat.or_lt_two_pow (n := 32) (orA_lt A hA lo h) (hA h)
    · omega

theorem Kids.uniq {N : List Str} {P : Str} {ss : List St} {f : Nat} : ∀ {k lo hi hi' : Nat}, Kids N P ss f k lo hi → Kids N P ss f k lo hi' → hi = hi'
  | 0, _, _, _, h, h' => by have a : _ = _ := h; have b : _ = _ := h'; omega
  | k + 1, _, _, _, ⟨c, h1, _, _, h4, _⟩, ⟨c', h1', _, _, h4', _⟩ => by
    rw [h1] at h1'; cases h1'; omega

/-- What a node's children hold, with the node's own. -/
theorem orA_node {N : List Str} {C A : List Nat} {ss : List St} {k : Nat} {s : St} {d : Dy} (h : Done N C A ss k s d) (hg : Good N s) : orA A (lo' N s) s.hi ||| d.all = orA A s.lo s.hi := by
  have hlt := hg.lt
  cases hd : d.dfn with
  | false =>
    rw [(h.no hd).2.1, Nat.or_zero]
    have : lo' N s = s.lo := by unfold lo'; rw [← h.dfn, hd]; rfl
    rw [this]
  | true =>
    rw [(h.yes hd).2.1]
    have : lo' N s = s.lo + 1 := by unfold lo'; rw [← h.dfn, hd]; rfl
    rw [this, Nat.or_comm, ← orA_one A s.lo]
    exact orA_split A (by omega) (by omega)

/-- The nodes from j on know what lies below them. -/
structure S4 (N : List Str) (C A : List Nat) (w : World) (gN cN gH cH m : Nat) (ss : List St) (dd : List Dy) (j : Nat) (nv : List Nv) (wx : World) : Prop where
  inv : Inv N C A m ss dd
  sl : ss.length = m
  len : nv.length = m
  at_ : ∀ k s d, ss[k]? = some s → dd[k]? = some d → nv[k]? = some (nvOf s d (if j ≤ k then orA A (lo' N s) s.hi else 0))
  nd : wx.ownsRow w.heap.size 56 8 (.slice (some ⟨gN, 0, none⟩) m cN) m (nv.flatMap ndc)
  hd : wx.ownsRow w.heap.size 41 1 (.slice (some ⟨gH, 0, none⟩) m cH) m (ss.flatMap hdc)
  below : Below w.heap.size w wx

/-- In the inner loop: node i's number is what its first t children give. -/
structure S5 (N : List Str) (C A : List Nat) (w : World) (gN cN gH cH m : Nat) (ss : List St) (dd : List Dy) (i : Nat) (s : St) (d : Dy) (t mid : Nat) (nv : List Nv) (wx : World) : Prop where
  inv : Inv N C A m ss dd
  sl : ss.length = m
  len : nv.length = m
  hs : ss[i]? = some s
  hdd : dd[i]? = some d
  kids : Kids N (pre N i s) ss d.first t (lo' N s) mid
  here : nv[i]? = some (nvOf s d (orA A (lo' N s) mid))
  at_ : ∀ k s d, k ≠ i → ss[k]? = some s → dd[k]? = some d → nv[k]? = some (nvOf s d (if i ≤ k then orA A (lo' N s) s.hi else 0))
  nd : wx.ownsRow w.heap.size 56 8 (.slice (some ⟨gN, 0, none⟩) m cN) m (nv.flatMap ndc)
  hd : wx.ownsRow w.heap.size 41 1 (.slice (some ⟨gH, 0, none⟩) m cH) m (ss.flatMap hdc)
  below : Below w.heap.size w wx

section
variable {N : List Str} {C A : List Nat} {w : World} {gN cN gH cH m : Nat} {ss : List St} {dd : List Dy} {i j t mid : Nat} {s : St} {d : Dy} {nv : List Nv} {wx wy : World}
theorem S4.below' (h : S4 N C A w gN cN gH cH m ss dd j nv wx) (hb : Below wx.heap.size wx wy) : S4 N C A w gN cN gH cH m ss dd j nv wy :=
  ⟨h.inv, h.sl, h.len, h.at_, own_below h.nd hb, own_below h.hd hb, h.below.trans (hb.mono h.below.size)⟩
theorem S5.below' (h : S5 N C A w gN cN gH cH m ss dd i s d t mid nv wx) (hb : Below wx.heap.size wx wy) : S5 N C A w gN cN gH cH m ss dd i s d t mid nv wy :=
  ⟨h.inv, h.sl, h.len, h.hs, h.hdd, h.kids, h.here, h.at_, own_below h.nd hb, own_below h.hd hb, h.below.trans (hb.mono h.below.size)⟩
theorem S4.cell (h : S4 N C A w gN cN gH cH m ss dd j nv wx) {k f : Nat} {v : Nv} (hv : nv[k]? = some v) (hf : f < 8) : wx.cell? ⟨gN, k * 8 + f, none⟩ = (ndc v)[f]? := by
  have hk : k < m := by rw [← h.len]; exact (List.getElem?_eq_some_iff.1 hv).1
  rw [h.nd.cellAt (k * 8 + f) (by omega), flat_get ndc_len nv k f v hv hf]
theorem S5.cell (h : S5 N C A w gN cN gH cH m ss dd i s d t mid nv wx) {k f : Nat} {v : Nv} (hv : nv[k]? = some v) (hf : f < 8) : wx.cell? ⟨gN, k * 8 + f, none⟩ = (ndc v)[f]? := by
  have hk : k < m := by rw [← h.len]; exact (List.getElem?_eq_some_iff.1 hv).1
  rw [h.nd.cellAt (k * 8 + f) (by omega), flat_get ndc_len nv k f v hv hf]
theorem S4.into (h : S4 N C A w gN cN gH cH m ss dd (i + 1) nv wx) (hs : ss[i]? = some s) (hdd : dd[i]? = some d) : S5 N C A w gN cN gH cH m ss dd i s d 0 (lo' N s) nv wx := by
  refine ⟨h.inv, h.sl, h.len, hs, hdd, rfl, ?_, ?_, h.nd, h.hd, h.below⟩
  · rw [h.at_ i s d hs hdd, if_neg (by omega), orA_nil A (Nat.le_refl _)]
  · intro k s' d' hk hs' hd'
    rw [h.at_ k s' d' hs' hd']
    by_cases hik : i ≤ k
    · rw [if_pos hik, if_pos (by omega)]
    · rw [if_neg hik, if_neg (by omega)]
theorem S5.out (h : S5 N C A w gN cN gH cH m ss dd i s d d.count mid nv wx) : S4 N C A w gN cN gH cH m ss dd i nv wx := by
  have hdone := h.inv.done i s d h.hs h.hdd
  have hm : mid = s.hi := Kids.uniq h.kids hdone.kids
  refine ⟨h.inv, h.sl, h.len, ?_, h.nd, h.hd, h.below⟩
  intro k s' d' hs' hd'
  by_cases hk : k = i
  · subst hk
    rw [h.hs] at hs'; cases hs'
    rw [h.hdd] at hd'; cases hd'
    rw [h.here, if_pos (Nat.le_refl _), hm]
  · exact h.at_ k s' d' hk hs' hd'
/-- The next child. -/
theorem S5.kid (h : S5 N C A w gN cN gH cH m ss dd i s d t mid nv wx) (ht : t < d.count) :
    ∃ c dc, ss[d.first + t]? = some c ∧ dd[d.first + t]? = some dc ∧ nv[d.first + t]? = some (nvOf c dc (orA A (lo' N c) c.hi)) ∧ Kids N (pre N i s) ss d.first (t + 1) (lo' N s) c.hi ∧
      orA A (lo' N s) mid ||| (orA A (lo' N c) c.hi ||| dc.all) = orA A (lo' N s) c.hi := by
  have hdone := h.inv.done i s d h.hs h.hdd
  obtain ⟨c, mid', h1, h2, h3, h4, h5, h6, _⟩ := hdone.kids.get t ht
  have hm : mid = mid' := Kids.uniq h.kids h5
  have hlt : d.first + t < m := by have := hdone.fits; rw [h.sl] at this; omega
  obtain ⟨dc, hdc⟩ : ∃ dc, dd[d.first + t]? = some dc := ⟨dd[d.first + t]'(by rw [h.inv.len]; exact hlt), List.getElem?_eq_getElem _⟩
  have hgt := hdone.gt
  refine ⟨c, dc, h1, hdc, ?_, h6, ?_⟩
  · rw [h.at_ _ c dc (by omega) h1 hdc, if_pos (by omega)]
  · have hdc2 := h.inv.done _ c dc h1 hdc
    rw [orA_node hdc2 h2, h4, ← hm]
    have h5' := h5.le
    have h2' := h2.lt
    exact orA_split A (by rw [hm]; omega) (by rw [hm, ← h4]; omega)
theorem S5.store (h : S5 N C A w gN cN gH cH m ss dd i s d t mid nv wx) {c : St} {x : Nat} (hk : Kids N (pre N i s) ss d.first (t + 1) (lo' N s) c.hi) (hx : x = orA A (lo' N s) c.hi) :
    S5 N C A w gN cN gH cH m ss dd i s d (t + 1) c.hi (nv.set i (nvOf s d x)) (wx.setCell ⟨gN, i * 8 + 7, none⟩ (.int .u32 (x : Int))) := by
  subst hx
  have hil : i < nv.length := (List.getElem?_eq_some_iff.1 h.here).1
  have hst := h.nd.stored (i * 8 + 7) (.int .u32 ((orA A (lo' N s) c.hi : Nat) : Int))
  have hfs := flat_set ndc_len nv i 7 _ (nvOf s d (orA A (lo' N s) c.hi)) (.int .u32 ((orA A (lo' N s) c.hi : Nat) : Int)) h.here (by omega) rfl
  rw [hfs] at hst
  refine ⟨h.inv, h.sl, by rw [List.length_set]; exact h.len, h.hs, h.hdd, hk, by rw [List.getElem?_set_self hil], ?_, hst.1, own_grown h.hd hst.2 (own_ne h.hd h.nd (by decide)), h.below.setCell (own_at h.nd).1 _⟩
  intro k s' d' hne hs' hd'
  rw [List.getElem?_set_ne (Ne.symm hne)]
  exact h.at_ k s' d' hne hs' hd'
end

theorem kids_slice (g c m f k : Nat) (hm : m ≤ c) (hf : f + k ≤ m) (hc : c ≤ maxLen) : ∃ ad c', (∀ w, (Instr.slice 44 (.slice (some ⟨g, 0, none⟩) m c) (some (.int .i32 (f : Int))) (some (.int .i32 ((f + k : Nat) : Int))) none).run Try.prog w = .ok (.slice ad k c') w) ∧ (0 < k → ad = some ⟨g, f * 8, none⟩) := by
  have hsz : ∀ w, (sizeOf (Try.prog.elem 44)).run Try.prog w = .ok 8 w := by
    intro w
    have e : Try.prog.elem 44 = 56 := by kernel_rfl
    rw [e]; exact Try.sizeOf56 w
  have ht : Try.prog.underlying 44 = some (.slice (Try.prog.elem 44)) := by
    have e : Try.prog.elem 44 = 56 := by kernel_rfl
    rw [e]; exact Try.underlying44
  refine ⟨if c = f then some ⟨g, 0, none⟩ else some ⟨g, f * 8, none⟩, c - f, fun w => ?_, fun hk => ?_⟩
  · rw [run_slice_lh (P := Try.prog) w 44 (some ⟨g, 0, none⟩) m c ht .i32 .i32 f ((f + k : Nat) : Int) (by omega) (by omega) (by omega), hsz]
    simp only [Result.andThen, sliced, Int.toNat_natCast]
    by_cases e : c = f
    · rw [if_pos e, if_pos e]; congr 2; omega
    · rw [if_neg e, if_neg e]
      simp only [Option.map, Addr.add_lit, Nat.zero_add]
      congr 2; omega
  · rw [if_neg (by omega)]

end Go.Proofs.Qxb6600888a
