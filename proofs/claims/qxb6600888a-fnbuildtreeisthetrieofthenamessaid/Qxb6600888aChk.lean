import Derived.Test.Qxb6600888aBel
namespace Go.Proofs.Qxb6600888a
open Go.RowKit
set_option linter.unusedVariables false
set_option linter.unusedSimpArgs false

/-! What isTrieOf looks at, drawn from the table. -/
structure Fin (N : List Str) (C A : List Nat) (m : Nat) (ss : List St) (dd : List Dy) (nv : List Nv) : Prop where
  inv : Inv N C A m ss dd
  sl : ss.length = m
  len : nv.length = m
  at_ : ∀ (k : Nat) s d, ss[k]? = some s → dd[k]? = some d → nv[k]? = some (nvOf s d (orA A (lo' N s) s.hi))

section
variable {N : List Str} {C A : List Nat} {m : Nat} {ss : List St} {dd : List Dy} {nv : List Nv}
theorem Fin.get (h : Fin N C A m ss dd nv) {k : Nat} (hk : k < m) : ∃ s d, ss[k]? = some s ∧ dd[k]? = some d ∧ Done N C A ss k s d ∧ nv[k]? = some (nvOf s d (orA A (lo' N s) s.hi)) := by
  have h1 : ss[k]? = some (ss[k]'(by rw [h.sl]; exact hk)) := List.getElem?_eq_getElem _
  have h2 : dd[k]? = some (dd[k]'(by rw [h.inv.len]; exact hk)) := List.getElem?_eq_getElem _
  exact ⟨_, _, h1, h2, h.inv.done k _ _ h1 h2, h.at_ k _ _ h1 h2⟩
theorem Fin.pos (h : Fin N C A m ss dd nv) : 1 ≤ m := by have := h.inv.tot; rw [h.sl] at this; omega
theorem Fin.small (h : Fin N C A m ss dd nv) : m ≤ 2 * N.length + 1 := by have := h.inv.small; rw [h.sl] at this; exact this
theorem cnt_take_succ {dd : List Dy} {k : Nat} {d : Dy} (hd : dd[k]? = some d) : cnt (dd.take (k + 1)) = cnt (dd.take k) + d.count := by
  rw [List.take_add_one, hd]; simp [cnt]
theorem Fin.chain (h : Fin N C A m ss dd nv) {k : Nat} {d d' : Dy} (hd : dd[k]? = some d) (hd' : dd[k + 1]? = some d') : d'.first = d.first + d.count := by
  rw [h.inv.first (k + 1) d' hd', h.inv.first k d hd, cnt_take_succ hd]; omega
theorem Fin.last (h : Fin N C A m ss dd nv) {d : Dy} (hd : dd[m - 1]? = some d) : d.first + d.count = m := by
  have h1 := h.inv.first (m - 1) d hd
  have h2 := cnt_take_succ hd
  have hp := h.pos
  rw [show m - 1 + 1 = m by omega, List.take_of_length_le (by rw [h.inv.len]; exact Nat.le_refl _)] at h2
  have := h.inv.tot
  rw [h.sl] at this
  omega
theorem Fin.root (h : Fin N C A m ss dd nv) (hN : Names N) : ∃ d, ss[0]? = some (rootSt N) ∧ dd[0]? = some d ∧ d.first = 1 ∧ d.dfn = false ∧ nv[0]? = some (nvOf (rootSt N) d (orA A 0 N.length)) := by
  obtain ⟨s, d, h1, h2, h3, h4⟩ := h.get h.pos
  rw [h.inv.root] at h1
  cases h1
  refine ⟨d, h.inv.root, h2, ?_, ?_, ?_⟩
  · have := h.inv.first 0 d h2; simpa [cnt] using this
  · rw [h3.dfn, isDfn_root hN]
  · rw [h4, lo'_root hN]; rfl
/-- A node's full name. -/
def fullOf (N : List Str) (k : Nat) (s : St) : Str := if k = 0 then [] else full N s
theorem Fin.below_iff (h : Fin N C A m ss dd nv) (hN : Names N) {k : Nat} {s : St} (hs : ss[k]? = some s) (hk : 0 < k) {j : Nat} (hj : j < N.length) : (∃ r, nm N j = full N s ++ 46 :: r) ↔ lo' N s ≤ j ∧ j < s.hi := by
  have hg := h.inv.good k s hk hs
  have R := range_good hN hg
  constructor
  · rintro ⟨r, e⟩
    exact R.only j hj r (by rw [e]; simp)
  · rintro ⟨h1, h2⟩
    have := (R.pre j h1 h2).1
    exact ⟨_, this.trans (List.append_assoc _ _ _)⟩
/-- The children's names. -/
theorem Fin.kidName (h : Fin N C A m ss dd nv) {k : Nat} {s : St} {d : Dy} (hs : ss[k]? = some s) (hd : dd[k]? = some d) {t : Nat} (ht : t < d.count) :
    ∃ c, ss[d.first + t]? = some c ∧ Good N c ∧ full N c = pre N k s ++ c.lab ∧ (t = 0 ∨ ∃ b, ss[d.first + t - 1]? = some b ∧ fn b.lab ≠ fn c.lab) := by
  obtain ⟨c, mid, h1, h2, h3, _, _, _, h7⟩ := (h.inv.done k s d hs hd).kids.get t ht
  exact ⟨c, h1, h2, h3, h7⟩
end

/-- The stack of the walk in order: top first; together they hold lo .. hi. -/
def Stk (ss : List St) : List Nat → Nat → Nat → Prop
  | [], lo, hi => lo = hi
  | k :: ks, lo, hi => ∃ s, ss[k]? = some s ∧ s.lo = lo ∧ Stk ss ks s.hi hi
/-- What is left to do. -/
def wk (n k : Nat) (s : St) : Nat := if k = 0 then 2 * n + 1 else wt s
def SW (n : Nat) (ss : List St) : List Nat → Nat
  | [] => 0
  | k :: ks => (match ss[k]? with | some s => wk n k s | none => 0) + SW n ss ks

theorem Stk.kids {N : List Str} {P : Str} {ss : List St} {f : Nat} : ∀ {k lo mid hi : Nat} {ks : List Nat}, Kids N P ss f k lo mid → Stk ss ks mid hi → Stk ss ((List.range k).map (f + ·) ++ ks) lo hi
  | 0, lo, mid, hi, ks, h, hs => by have : lo = mid := h; subst this; simpa using hs
  | k + 1, lo, mid, hi, ks, ⟨c, h1, _, _, h4, h5, _⟩, hs => by
    rw [List.range_succ, List.map_append, List.append_assoc]
    exact Stk.kids h5 ⟨c, h1, rfl, by rw [h4]; exact hs⟩

end Go.Proofs.Qxb6600888a
