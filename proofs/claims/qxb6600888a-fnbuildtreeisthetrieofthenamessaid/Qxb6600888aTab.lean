import Derived.Test.Qxb6600888aPlain
namespace Go.Proofs.Qxb6600888a
set_option linter.unusedVariables false
set_option linter.unusedSimpArgs false

def nm (N : List Str) (j : Nat) : Str := N.getD j []
structure Names (N : List Str) : Prop where
  dot : ∀ j, j < N.length → dotted (nm N j) = true
  ord : ∀ i j, i < j → j < N.length → before (nm N i) (nm N j) = true
theorem Names.le {N : List Str} (h : Names N) {i j : Nat} (hij : i ≤ j) (hj : j < N.length) : le (nm N i) (nm N j) := by
  rcases Nat.lt_or_eq_of_le hij with hlt | rfl
  · exact Or.inr (h.ord i j hlt hj)
  · exact Or.inl rfl

/-- A node's label and span. -/
structure St where
  lab : Str
  lo : Nat
  hi : Nat
  en : Nat
/-- The rest of a node. -/
structure Dy where
  first : Nat
  count : Nat
  dfn : Bool
  cat : Nat
  own : Nat
  all : Nat

def full (N : List Str) (s : St) : Str := (nm N s.lo).take s.en

structure Good (N : List Str) (s : St) : Prop where
  lt : s.lo < s.hi
  hin : s.hi ≤ N.length
  en0 : 0 < s.en
  enl : s.en ≤ (nm N s.lo).length
  all : ∀ j, s.lo ≤ j → j < s.hi → holds (full N s) (nm N j)
  only : ∀ j, j < N.length → holds (full N s) (nm N j) → s.lo ≤ j ∧ j < s.hi
  lab : dotted s.lab = true
  two : s.en ≠ (nm N s.lo).length → fn ((nm N s.lo).drop (s.en + 1)) ≠ fn ((nm N (s.hi - 1)).drop (s.en + 1))

def rootSt (N : List Str) : St := ⟨[], 0, N.length, 0⟩

/-- The names of l .. h begin with P, and no others. -/
structure Range (N : List Str) (P : Str) (l h : Nat) : Prop where
  le : l ≤ h
  hin : h ≤ N.length
  pre : ∀ j, l ≤ j → j < h → nm N j = P ++ (nm N j).drop P.length ∧ dotted ((nm N j).drop P.length) = true
  only : ∀ j, j < N.length → ∀ r, nm N j = P ++ r → l ≤ j ∧ j < h

def isDfn (N : List Str) (s : St) : Bool := decide (s.lo < s.hi) && decide ((nm N s.lo).length = s.en)
def b2n (b : Bool) : Nat := if b then 1 else 0
def pre (N : List Str) (k : Nat) (s : St) : Str := if k = 0 then [] else full N s ++ [46]
def lo' (N : List Str) (s : St) : Nat := s.lo + b2n (isDfn N s)

theorem isDfn_root {N : List Str} (hN : Names N) : isDfn N (rootSt N) = false := by
  unfold isDfn rootSt
  simp only [Bool.and_eq_false_iff, decide_eq_false_iff_not]
  by_cases h : 0 < N.length
  · refine Or.inr fun e => ?_
    exact dotted_ne (hN.dot 0 h) (List.eq_nil_of_length_eq_zero e)
  · exact Or.inl h
theorem lo'_root {N : List Str} (hN : Names N) : lo' N (rootSt N) = 0 := by
  unfold lo'; rw [isDfn_root hN]; rfl

theorem range_root {N : List Str} (hN : Names N) : Range N [] 0 N.length :=
  ⟨Nat.zero_le _, Nat.le_refl _, fun j _ hj => ⟨by simp, by simpa using hN.dot j hj⟩, fun j hj _ _ => ⟨Nat.zero_le _, hj⟩⟩

theorem full_length {N : List Str} {s : St} (h : Good N s) : (full N s).length = s.en := by
  unfold full; rw [List.length_take]; have := h.enl; omega

theorem full_eq {N : List Str} {s : St} (h : Good N s) (hd : isDfn N s = true) : nm N s.lo = full N s := by
  unfold isDfn at hd
  simp only [Bool.and_eq_true, decide_eq_true_eq] at hd
  unfold full; rw [List.take_of_length_le (by omega)]

theorem range_good {N : List Str} (hN : Names N) {s : St} (h : Good N s) : Range N (full N s ++ [46]) (lo' N s) s.hi := by
  have hlt := h.lt
  have hfl := full_length h
  refine ⟨?_, h.hin, ?_, ?_⟩
  · unfold lo' b2n; split <;> omega
  · intro j hj hjh
    have hlj : s.lo ≤ j := by unfold lo' at hj; omega
    have hjn : j < N.length := Nat.lt_of_lt_of_le hjh h.hin
    have hne : nm N j ≠ full N s := by
      intro e
      by_cases hd : isDfn N s = true
      · have e2 := full_eq h hd
        have hj1 : s.lo < j := by unfold lo' b2n at hj; rw [hd] at hj; simp at hj; omega
        have := hN.ord s.lo j hj1 hjn
        rw [e, e2, before_irrefl] at this; cases this
      · -- then the first name is longer than the node's
        have h0 := h.all s.lo (Nat.le_refl _) hlt
        have hle := hN.le hlj hjn
        rw [e] at hle
        rcases h0 with h0 | ⟨r, h0⟩
        · apply hd
          unfold isDfn
          simp only [Bool.and_eq_true, decide_eq_true_eq]
          exact ⟨hlt, by rw [h0, hfl]⟩
        · rw [h0] at hle
          have : le (46 :: r) [] := le_append (full N s) (46 :: r) [] (by simpa using hle)
          rcases this with h | h
          · cases h
          · cases h
    rcases h.all j hlj hjh with e | ⟨r, e⟩
    · exact absurd e hne
    · have e2 : nm N j = (full N s ++ [46]) ++ r := by rw [e]; simp
      have e3 : (nm N j).drop (full N s ++ [46]).length = r := by rw [e2]; exact List.drop_left
      refine ⟨by rw [e3]; exact e2, ?_⟩
      rw [e3]
      have := hN.dot j hjn
      rw [e] at this
      exact (dotted_split.1 this).2
  · intro j hj r e
    have e2 : nm N j = full N s ++ 46 :: r := by rw [e]; simp
    obtain ⟨h1, h2⟩ := h.only j hj (Or.inr ⟨r, e2⟩)
    refine ⟨?_, h2⟩
    unfold lo' b2n
    split
    · rename_i hd
      rcases Nat.lt_or_eq_of_le h1 with hlt' | rfl
      · omega
      · exfalso
        have e3 := full_eq h hd
        rw [e3] at e2
        have := congrArg List.length e2
        simp at this
    · omega

theorem range_of {N : List Str} (hN : Names N) {k : Nat} {s : St} (h0 : k = 0 → s = rootSt N) (h1 : 0 < k → Good N s) : Range N (pre N k s) (lo' N s) s.hi := by
  unfold pre
  by_cases hk : k = 0
  · rw [if_pos hk]
    have := h0 hk; subst this
    rw [lo'_root hN]; exact range_root hN
  · rw [if_neg hk]; exact range_good hN (h1 (by omega))

/-- What follows P. -/
def rest (N : List Str) (P : Str) (j : Nat) : Str := (nm N j).drop P.length

theorem Range.le_rest {N : List Str} (hN : Names N) {P : Str} {l h : Nat} (R : Range N P l h) {i j : Nat} (hi : l ≤ i) (hij : i ≤ j) (hj : j < h) : Qxb6600888a.le (rest N P i) (rest N P j) := by
  have h1 := (R.pre i hi (by omega)).1
  have h2 := (R.pre j (by omega) hj).1
  have h3 := hN.le hij (Nat.lt_of_lt_of_le hj R.hin)
  rw [h1, h2] at h3
  exact le_append P _ _ h3

theorem child {N : List Str} (hN : Names N) {P : Str} {l0 hi : Nat} (R : Range N P l0 hi) {l h p : Nat} (hl : l0 ≤ l) (hlh : l < h) (hh : h ≤ hi)
    (hgrp : ∀ j, l ≤ j → j < h → fn (rest N P j) = fn (rest N P l)) (hend : h = hi ∨ fn (rest N P h) ≠ fn (rest N P l)) (hbeg : l = l0 ∨ fn (rest N P (l - 1)) ≠ fn (rest N P l))
    (hp : Shared (rest N P l) (rest N P (h - 1)) p) :
    Good N ⟨(rest N P l).take p, l, h, P.length + p⟩ ∧ full N ⟨(rest N P l).take p, l, h, P.length + p⟩ = P ++ (rest N P l).take p ∧ fn ((rest N P l).take p) = fn (rest N P l) := by
  obtain ⟨hpl, hp0, ha, hb, htwo⟩ := hp
  have hnl := (R.pre l hl (by omega)).1
  have hdl := (R.pre l hl (by omega)).2
  have hfull : full N ⟨(rest N P l).take p, l, h, P.length + p⟩ = P ++ (rest N P l).take p := by
    unfold full
    simp only []
    conv => lhs; rw [hnl]
    rw [List.take_append]
    have : List.take (P.length + p) P = P := List.take_of_length_le (by omega)
    rw [this, show P.length + p - P.length = p by omega]
    rfl
  have hlabne : (rest N P l).take p ≠ [] := by
    intro e
    have := congrArg List.length e
    rw [List.length_take, List.length_nil] at this
    omega
  have hlabd : dotted ((rest N P l).take p) = true := dotted_hold ha hdl
  have hfnl : fn ((rest N P l).take p) = fn (rest N P l) := (fn_hold ha hlabne).symm
  have hlen : (nm N l).length = P.length + (rest N P l).length := by
    conv => lhs; rw [hnl]
    rw [List.length_append]; rfl
  refine ⟨⟨hlh, Nat.le_trans hh R.hin, by simp only []; omega, by simp only []; omega, ?_, ?_, hlabd, ?_⟩, hfull, hfnl⟩
  · intro j hj hjh
    simp only [] at hj hjh
    rw [hfull, (R.pre j (by omega) (by omega)).1]
    refine (holds_ext _).2 ?_
    exact holds_conv ha hb (R.le_rest hN hl hj (by omega)) (R.le_rest hN (by omega) (by omega) (by omega))
  · intro j hj hold
    simp only []
    rw [hfull] at hold
    have hpre : ∃ r, nm N j = P ++ r := by
      rcases hold with e | ⟨r, e⟩
      · exact ⟨_, e⟩
      · exact ⟨_, e.trans (List.append_assoc _ _ _)⟩
    obtain ⟨r, hr⟩ := hpre
    obtain ⟨q1, q2⟩ := R.only j hj r hr
    rw [(R.pre j q1 q2).1] at hold
    have hold2 : holds ((rest N P l).take p) (rest N P j) := (holds_ext _).1 hold
    have hfj : fn (rest N P j) = fn (rest N P l) := (fn_hold hold2 hlabne).trans hfnl
    constructor
    · apply Classical.byContradiction
      intro hlt
      have hlt : j < l := by omega
      rcases hbeg with rfl | hbeg
      · omega
      · refine hbeg ?_
        have := fn_conv (R.le_rest hN q1 (show j ≤ l - 1 by omega) (by omega)) (R.le_rest hN (show l0 ≤ l - 1 by omega) (show l - 1 ≤ l by omega) (by omega)) hfj
        rw [this, hfj]
    · apply Classical.byContradiction
      intro hge
      rcases hend with rfl | hend
      · omega
      · refine hend ?_
        exact fn_conv (R.le_rest hN hl (show l ≤ h by omega) (by omega)) (R.le_rest hN (show l0 ≤ h by omega) (show h ≤ j by omega) q2) hfj.symm
  · intro hne
    simp only [] at hne ⊢
    have := htwo (by omega)
    have e1 : ∀ j, (nm N j).drop (P.length + p + 1) = (rest N P j).drop (p + 1) := by
      intro j; unfold rest; rw [List.drop_drop]; rfl
    rw [e1, e1]; exact this

/-- The children of a node: ss[f], .., ss[f + k - 1]; they share lo .. hi out. -/
def Kids (N : List Str) (P : Str) (ss : List St) (f : Nat) : Nat → Nat → Nat → Prop
  | 0, lo, hi => lo = hi
  | k + 1, lo, hi => ∃ c, ss[f + k]? = some c ∧ Good N c ∧ full N c = P ++ c.lab ∧ c.hi = hi ∧ Kids N P ss f k lo c.lo ∧ (k = 0 ∨ ∃ b, ss[f + k - 1]? = some b ∧ fn b.lab ≠ fn c.lab)

theorem Kids.mono {N : List Str} {P : Str} {ss : List St} {f : Nat} (t : List St) : ∀ {k lo hi : Nat}, Kids N P ss f k lo hi → Kids N P (ss ++ t) f k lo hi
  | 0, _, _, h => h
  | k + 1, lo, hi, ⟨c, h1, h2, h3, h4, h5, h6⟩ => by
    have g : ∀ (j : Nat) (x : St), ss[j]? = some x → (ss ++ t)[j]? = some x := by
      intro j x hx
      have : j < ss.length := (List.getElem?_eq_some_iff.1 hx).1
      rw [List.getElem?_append_left this]; exact hx
    refine ⟨c, g _ _ h1, h2, h3, h4, Kids.mono t h5, ?_⟩
    rcases h6 with h6 | ⟨b, h6, h7⟩
    · exact Or.inl h6
    · exact Or.inr ⟨b, g _ _ h6, h7⟩
theorem Kids.le {N : List Str} {P : Str} {ss : List St} {f : Nat} : ∀ {k lo hi : Nat}, Kids N P ss f k lo hi → lo + k ≤ hi
  | 0, _, _, h => by have : _ = _ := h; omega
  | k + 1, lo, hi, ⟨c, _, h2, _, h4, h5, _⟩ => by
    have := Kids.le h5; have := h2.lt; omega
theorem Kids.get {N : List Str} {P : Str} {ss : List St} {f : Nat} : ∀ {k lo hi : Nat}, Kids N P ss f k lo hi → ∀ t, t < k →
    ∃ c mid, ss[f + t]? = some c ∧ Good N c ∧ full N c = P ++ c.lab ∧ c.lo = mid ∧ Kids N P ss f t lo mid ∧ Kids N P ss f (t + 1) lo c.hi ∧ (t = 0 ∨ ∃ b, ss[f + t - 1]? = some b ∧ fn b.lab ≠ fn c.lab)
  | 0, _, _, _, t, ht => absurd ht (Nat.not_lt_zero _)
  | k + 1, lo, hi, h, t, ht => by
    obtain ⟨c, h1, h2, h3, h4, h5, h6⟩ := h
    by_cases e : t = k
    · subst e; exact ⟨c, _, h1, h2, h3, rfl, h5, ⟨c, h1, h2, h3, rfl, h5, h6⟩, h6⟩
    · exact Kids.get h5 t (by omega)

def wt (s : St) : Nat := 2 * (s.hi - s.lo) - 1
def W (l : List St) : Nat := (l.map wt).sum
theorem W_append (a b : List St) : W (a ++ b) = W a + W b := by simp [W]
theorem W_cons (a : St) (b : List St) : W (a :: b) = wt a + W b := by simp [W]

theorem Kids.weight {N : List Str} {P : Str} {ss : List St} {f : Nat} : ∀ {k lo hi : Nat}, Kids N P ss f k lo hi → W ((ss.drop f).take k) + k = 2 * (hi - lo)
  | 0, lo, hi, h => by have : lo = hi := h; subst this; simp [W]
  | k + 1, lo, hi, ⟨c, h1, h2, _, h4, h5, _⟩ => by
    have ih := Kids.weight h5
    have hle := Kids.le h5
    have e : (ss.drop f).take (k + 1) = (ss.drop f).take k ++ [c] := by
      rw [List.take_add_one, List.getElem?_drop, h1]; rfl
    rw [e, W_append, W_cons]
    have := h2.lt
    unfold wt
    simp only [W, List.map_nil, List.sum_nil] at ih ⊢
    omega

structure Done (N : List Str) (C A : List Nat) (ss : List St) (k : Nat) (s : St) (d : Dy) : Prop where
  gt : k < d.first
  fits : d.first + d.count ≤ ss.length
  dfn : d.dfn = isDfn N s
  yes : d.dfn = true → d.cat = C.getD s.lo 0 ∧ d.all = A.getD s.lo 0 ∧ d.own = (if C.getD s.lo 0 = 2147483648 then A.getD s.lo 0 else C.getD s.lo 0)
  no : d.dfn = false → d.cat = 0 ∧ d.all = 0 ∧ d.own = 0
  kids : Kids N (pre N k s) ss d.first d.count (lo' N s) s.hi
  two : 0 < k → d.dfn = false → 2 ≤ d.count
theorem Done.mono {N : List Str} {C A : List Nat} {ss : List St} {k : Nat} {s : St} {d : Dy} (h : Done N C A ss k s d) (t : List St) : Done N C A (ss ++ t) k s d :=
  ⟨h.gt, by rw [List.length_append]; have := h.fits; omega, h.dfn, h.yes, h.no, h.kids.mono t, h.two⟩

def cnt (l : List Dy) : Nat := (l.map Dy.count).sum

/-- i nodes are done. -/
structure Inv (N : List Str) (C A : List Nat) (i : Nat) (ss : List St) (dd : List Dy) : Prop where
  len : dd.length = i
  le : i ≤ ss.length
  root : ss[0]? = some (rootSt N)
  good : ∀ k s, 0 < k → ss[k]? = some s → Good N s
  done : ∀ k s d, ss[k]? = some s → dd[k]? = some d → Done N C A ss k s d
  first : ∀ k d, dd[k]? = some d → d.first = 1 + cnt (dd.take k)
  tot : ss.length = 1 + cnt dd
  weight : i = 0 ∨ i + W (ss.drop i) ≤ 2 * N.length + 1

theorem Inv.start (N : List Str) (C A : List Nat) : Inv N C A 0 [rootSt N] [] :=
  ⟨rfl, Nat.zero_le _, rfl, fun k s hk h => by
    obtain ⟨k, rfl⟩ : ∃ j, k = j + 1 := ⟨k - 1, by omega⟩
    simp at h, fun k s d _ h => by simp at h, fun k d h => by simp at h, rfl, Or.inl rfl⟩

theorem W_ge : ∀ l : List St, (∀ s ∈ l, s.lo < s.hi) → l.length ≤ W l
  | [], _ => by simp
  | s :: l, h => by
    rw [W_cons, List.length_cons]
    have := W_ge l fun t ht => h t (by simp [ht])
    have := h s (by simp)
    unfold wt; omega

/-- The table never has more than 2 n + 1 nodes. -/
theorem Inv.small {N : List Str} {C A : List Nat} {i : Nat} {ss : List St} {dd : List Dy} (h : Inv N C A i ss dd) : ss.length ≤ 2 * N.length + 1 := by
  by_cases h0 : i = 0
  · have := h.tot
    have hd : dd = [] := List.eq_nil_of_length_eq_zero (by rw [h.len, h0])
    rw [hd] at this; simp [cnt] at this; omega
  · have hw := h.weight.resolve_left h0
    have := W_ge (ss.drop i) (by
      intro s hs
      obtain ⟨j, hj, e⟩ := List.getElem_of_mem hs
      rw [List.getElem_drop] at e
      refine (h.good (i + j) s (by omega) ?_).lt
      rw [List.getElem?_eq_getElem (by rw [List.length_drop] at hj; omega), e])
    rw [List.length_drop] at this
    have := h.le
    omega

/-- The inner loop: ks are the children laid so far, from l0 up to l. -/
structure Grow (N : List Str) (P : Str) (ss : List St) (l0 hi l : Nat) (ks : List St) : Prop where
  bl : l0 ≤ l
  bh : l ≤ hi
  kids : Kids N P (ss ++ ks) ss.length ks.length l0 l
  last : ks ≠ [] → l0 < l ∧ (∃ b, (ss ++ ks)[ss.length + ks.length - 1]? = some b ∧ fn b.lab = fn (rest N P (l - 1))) ∧ (l < hi → fn (rest N P (l - 1)) ≠ fn (rest N P l))
  nil : ks = [] → l = l0
  one : ks.length = 1 → fn (rest N P (l - 1)) = fn (rest N P l0)

theorem Grow.start {N : List Str} {P : Str} {ss : List St} {l0 hi : Nat} (h : l0 ≤ hi) : Grow N P ss l0 hi l0 [] :=
  ⟨Nat.le_refl _, h, rfl, fun h => absurd rfl h, fun _ => rfl, fun h => by simp at h⟩

theorem Grow.step {N : List Str} (hN : Names N) {P : Str} {ss : List St} {l0 hi l : Nat} {ks : List St} (R : Range N P l0 hi) (g : Grow N P ss l0 hi l ks) {h p : Nat} (hlh : l < h) (hh : h ≤ hi)
    (hgrp : ∀ j, l ≤ j → j < h → fn (rest N P j) = fn (rest N P l)) (hend : h = hi ∨ fn (rest N P h) ≠ fn (rest N P l)) (hp : Shared (rest N P l) (rest N P (h - 1)) p) :
    Grow N P ss l0 hi h (ks ++ [⟨(rest N P l).take p, l, h, P.length + p⟩]) := by
  have hbeg : l = l0 ∨ fn (rest N P (l - 1)) ≠ fn (rest N P l) := by
    by_cases e : ks = []
    · exact Or.inl (g.nil e)
    · exact Or.inr ((g.last e).2.2 (by omega))
  obtain ⟨c1, c2, c3⟩ := child hN R g.bl hlh hh hgrp hend hbeg hp
  generalize hc : (⟨(rest N P l).take p, l, h, P.length + p⟩ : St) = c at *
  have hclo : c.lo = l := by rw [← hc]
  have hchi : c.hi = h := by rw [← hc]
  have hclab : c.lab = (rest N P l).take p := by rw [← hc]
  rw [← hclab] at c2 c3
  have hat : (ss ++ (ks ++ [c]))[ss.length + ks.length]? = some c := by
    rw [← List.append_assoc, List.getElem?_append_right (by simp)]; simp
  refine ⟨by have := g.bl; omega, hh, ?_, ?_, fun e => by simp at e, ?_⟩
  · rw [List.length_append, List.length_singleton]
    refine ⟨c, hat, c1, c2, hchi, ?_, ?_⟩
    · rw [← List.append_assoc, hclo]; exact g.kids.mono [c]
    · by_cases e : ks = []
      · exact Or.inl (by rw [e]; rfl)
      · obtain ⟨_, ⟨b, hb, hbf⟩, hne⟩ := g.last e
        refine Or.inr ⟨b, ?_, ?_⟩
        · rw [← List.append_assoc, List.getElem?_append_left]
          · exact hb
          · exact (List.getElem?_eq_some_iff.1 hb).1
        · rw [hbf, c3]; exact hne (by omega)
  · intro _
    refine ⟨by have := g.bl; omega, ⟨c, ?_, ?_⟩, ?_⟩
    · rw [List.length_append, List.length_singleton]; exact hat
    · rw [c3]; exact (hgrp (h - 1) (by omega) (by omega)).symm
    · intro hlt
      rcases hend with e | e
      · omega
      · rw [hgrp (h - 1) (by omega) (by omega)]; exact Ne.symm e
  · intro e
    have : ks = [] := by
      rw [List.length_append, List.length_singleton] at e
      exact List.eq_nil_of_length_eq_zero (by omega)
    rw [hgrp (h - 1) (by omega) (by omega), g.nil this]

/-- The round's end. -/
theorem Inv.step {N : List Str} (hN : Names N) {C A : List Nat} {i : Nat} {ss : List St} {dd : List Dy} (h : Inv N C A i ss dd) {s : St} (hs : ss[i]? = some s) {ks : List St} {d : Dy}
    (g : Grow N (pre N i s) ss (lo' N s) s.hi s.hi ks) (hf : d.first = ss.length) (hc : d.count = ks.length) (hd : d.dfn = isDfn N s)
    (yes : d.dfn = true → d.cat = C.getD s.lo 0 ∧ d.all = A.getD s.lo 0 ∧ d.own = (if C.getD s.lo 0 = 2147483648 then A.getD s.lo 0 else C.getD s.lo 0))
    (no : d.dfn = false → d.cat = 0 ∧ d.all = 0 ∧ d.own = 0) :
    Inv N C A (i + 1) (ss ++ ks) (dd ++ [d]) := by
  have hi : i < ss.length := (List.getElem?_eq_some_iff.1 hs).1
  have htwo : 0 < i → d.dfn = false → 2 ≤ d.count := by
    intro h0 hdf
    have hg := h.good i s h0 hs
    rw [hd] at hdf
    have hl : lo' N s = s.lo := by unfold lo'; rw [hdf]; rfl
    have hlt := hg.lt
    have hen : s.en ≠ (nm N s.lo).length := by
      intro e
      unfold isDfn at hdf
      simp only [Bool.and_eq_false_iff, decide_eq_false_iff_not] at hdf
      rcases hdf with hdf | hdf
      · exact hdf hlt
      · exact hdf e.symm
    have htw := hg.two hen
    rw [hc]
    apply Classical.byContradiction
    intro hlt2
    by_cases e : ks = []
    · have := g.nil e; omega
    · have hk : 0 < ks.length := List.length_pos_iff.2 e
      have := g.one (by omega)
      rw [hl] at this
      apply htw
      have hpl : (pre N i s).length = s.en + 1 := by
        unfold pre; rw [if_neg (by omega), List.length_append, full_length hg]; rfl
      unfold rest at this
      rw [hpl] at this
      exact this.symm
  have hget : ∀ (k : Nat) (x : St), ss[k]? = some x → (ss ++ ks)[k]? = some x := fun k x hx => by
    rw [List.getElem?_append_left (List.getElem?_eq_some_iff.1 hx).1]; exact hx
  have hgoodk : ∀ k x, 0 < k → (ss ++ ks)[k]? = some x → Good N x := by
    intro k x hk hx
    by_cases hlt : k < ss.length
    · rw [List.getElem?_append_left hlt] at hx; exact h.good k x hk hx
    · have hkl : k < (ss ++ ks).length := (List.getElem?_eq_some_iff.1 hx).1
      rw [List.length_append] at hkl
      obtain ⟨c, mid, hc1, hc2, _⟩ := g.kids.get (k - ss.length) (by omega)
      rw [show ss.length + (k - ss.length) = k by omega, hx] at hc1
      cases hc1; exact hc2
  refine ⟨by simp [h.len], by rw [List.length_append]; omega, hget 0 _ h.root, hgoodk, ?_, ?_, ?_, Or.inr ?_⟩
  · intro k x e hx he
    by_cases hk : k < i
    · rw [List.getElem?_append_left (by rw [h.len]; exact hk)] at he
      rw [List.getElem?_append_left (by omega)] at hx
      exact (h.done k x e hx he).mono ks
    · have hki : k = i := by
        have : k < (dd ++ [d]).length := (List.getElem?_eq_some_iff.1 he).1
        rw [List.length_append, h.len, List.length_singleton] at this
        omega
      subst hki
      rw [List.getElem?_append_right (by rw [h.len]; exact Nat.le_refl _), h.len] at he
      simp at he
      subst he
      rw [hget k s hs] at hx
      cases hx
      refine ⟨by omega, by rw [hf, hc, List.length_append]; omega, hd, yes, no, ?_, htwo⟩
      rw [hf, hc]; exact g.kids
  · intro k e he
    by_cases hk : k < i
    · rw [List.getElem?_append_left (by rw [h.len]; exact hk)] at he
      rw [List.take_append_of_le_length (by rw [h.len]; omega)]
      exact h.first k e he
    · have hki : k = i := by
        have : k < (dd ++ [d]).length := (List.getElem?_eq_some_iff.1 he).1
        rw [List.length_append, h.len, List.length_singleton] at this
        omega
      subst hki
      rw [List.getElem?_append_right (by rw [h.len]; exact Nat.le_refl _), h.len] at he
      simp at he
      subst he
      rw [List.take_append_of_le_length (by rw [h.len]; exact Nat.le_refl _), List.take_of_length_le (by rw [h.len]; exact Nat.le_refl _), hf]
      exact h.tot
  · rw [List.length_append, h.tot]
    simp [cnt, hc]; omega
  · have hw := g.kids.weight
    have e1 : ((ss ++ ks).drop ss.length).take ks.length = ks := by rw [List.drop_left, List.take_length]
    rw [e1] at hw
    rw [List.drop_append_of_le_length (by omega), W_append]
    by_cases h0 : i = 0
    · have hss : ss.length = 1 := by
        have := h.tot
        have hdd : dd = [] := List.eq_nil_of_length_eq_zero (by rw [h.len, h0])
        rw [hdd] at this; simpa [cnt] using this
      have : ss.drop (i + 1) = [] := List.drop_of_length_le (by omega)
      rw [this]
      subst h0
      rw [h.root] at hs
      cases hs
      rw [lo'_root hN] at hw
      have hrh : (rootSt N).hi = N.length := rfl
      rw [hrh] at hw
      simp [W] at hw ⊢
      omega
    · have hwt := h.weight.resolve_left h0
      rw [List.drop_eq_getElem_cons hi, W_cons] at hwt
      have hsi : ss[i] = s := by rw [List.getElem?_eq_getElem hi] at hs; exact Option.some.inj hs
      rw [hsi] at hwt
      have hg := h.good i s (by omega) hs
      have hlt := hg.lt
      have : W ks ≤ wt s - 1 := by
        unfold wt
        cases hdf : d.dfn with
        | false =>
          have := htwo (by omega) hdf
          rw [hd] at hdf
          have hl : lo' N s = s.lo := by unfold lo'; rw [hdf]; rfl
          rw [hl] at hw
          omega
        | true =>
          rw [hd] at hdf
          have hl : lo' N s = s.lo + 1 := by unfold lo'; rw [hdf]; rfl
          rw [hl] at hw
          omega
      unfold wt at this hwt
      omega

end Go.Proofs.Qxb6600888a
