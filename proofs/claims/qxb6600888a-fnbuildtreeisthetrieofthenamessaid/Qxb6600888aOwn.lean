import Derived.Test.Qxb6600888aGua2
namespace Go.Proofs.Qxb6600888a
open Go.RowKit
set_option linter.unusedVariables false
set_option linter.unusedSimpArgs false

/-! Rows of records, each of q cells. -/
theorem flat_len {α : Type} {c : α → List Value} {q : Nat} (hc : ∀ a, (c a).length = q) : ∀ l : List α, (l.flatMap c).length = l.length * q
  | [] => by simp
  | a :: l => by rw [List.flatMap_cons, List.length_append, hc, flat_len hc l, List.length_cons, Nat.add_mul]; omega
theorem flat_get {α : Type} {c : α → List Value} {q : Nat} (hc : ∀ a, (c a).length = q) : ∀ (l : List α) (k f : Nat) (a : α), l[k]? = some a → f < q → (l.flatMap c)[k * q + f]? = (c a)[f]?
  | [], k, f, a, h, _ => by simp at h
  | b :: l, 0, f, a, h, hf => by
    simp at h; subst h
    rw [List.flatMap_cons, Nat.zero_mul, Nat.zero_add, List.getElem?_append_left (by rw [hc]; exact hf)]
  | b :: l, k + 1, f, a, h, hf => by
    rw [List.flatMap_cons, List.getElem?_append_right (by rw [hc, Nat.add_mul]; omega), hc]
    have e : (k + 1) * q + f - q = k * q + f := by rw [Nat.add_mul]; omega
    rw [e]
    exact flat_get hc l k f a (by simpa using h) hf
theorem flat_set {α : Type} {c : α → List Value} {q : Nat} (hc : ∀ a, (c a).length = q) : ∀ (l : List α) (k f : Nat) (a a' : α) (v : Value), l[k]? = some a → f < q → c a' = (c a).set f v → (l.flatMap c).set (k * q + f) v = (l.set k a').flatMap c
  | [], k, f, a, a', v, h, _, _ => by simp at h
  | b :: l, 0, f, a, a', v, h, hf, he => by
    simp at h; subst h
    rw [List.flatMap_cons, Nat.zero_mul, Nat.zero_add, List.set_append_left _ _ (by rw [hc]; exact hf), ← he]; rfl
  | b :: l, k + 1, f, a, a', v, h, hf, he => by
    rw [List.flatMap_cons, List.set_append_right _ _ (by rw [hc, Nat.add_mul]; omega), hc]
    have e : (k + 1) * q + f - q = k * q + f := by rw [Nat.add_mul]; omega
    rw [e, flat_set hc l k f a a' v (by simpa using h) hf he]; rfl

/-! Rows that the call owns. -/
section
variable {w w' : World} {B e e' size size' : Nat} {g c n g' c' n' : Nat} {xs xs' : List Value}
theorem own_at (h : w.ownsRow B e size (.slice (some ⟨g, 0, none⟩) n c) n xs) : B ≤ g ∧ ∃ cur, w.heap[g]? = some (.cells cur e (0, 0)) ∧ cur.toList.take (n * size) = xs ∧ n ≤ c ∧ c ≤ maxLen ∧ cur.size = c * size := by
  rcases h.2 with ⟨h', _⟩ | ⟨g', cap', cur, h', hb, hg, h1, h2, h3, htake⟩
  · simp at h'
  · simp only [Value.slice.injEq, Option.some.injEq, Addr.mk.injEq, and_true, true_and] at h'
    obtain ⟨rfl, rfl⟩ := h'
    exact ⟨hb, cur, hg, htake, h1, h2, h3⟩
theorem own_ne (h : w.ownsRow B e size (.slice (some ⟨g, 0, none⟩) n c) n xs) (h' : w.ownsRow B e' size' (.slice (some ⟨g', 0, none⟩) n' c') n' xs') (hne : e ≠ e') : g ≠ g' := by
  rintro rfl
  obtain ⟨_, cur, h1, _⟩ := own_at h
  obtain ⟨_, cur', h2, _⟩ := own_at h'
  rw [h1] at h2
  cases h2
  exact hne rfl
theorem own_lt (h : w.ownsRow B e size (.slice (some ⟨g, 0, none⟩) n c) n xs) : g < w.heap.size := by
  obtain ⟨_, cur, h1, _⟩ := own_at h
  exact (Array.getElem?_eq_some_iff.1 h1).1
theorem own_below (h : w.ownsRow B e size (.slice (some ⟨g, 0, none⟩) n c) n xs) (hb : Below w.heap.size w w') : w'.ownsRow B e size (.slice (some ⟨g, 0, none⟩) n c) n xs := by
  obtain ⟨hB, cur, h1, h2, h3, h4, h5⟩ := own_at h
  exact ⟨h.1, .inr ⟨g, c, cur, rfl, hB, (hb.block g (own_lt h)).trans h1, h3, h4, h5, h2⟩⟩
theorem own_other (h : w.ownsRow B e size (.slice (some ⟨g, 0, none⟩) n c) n xs) (hb : w'.heap[g]? = w.heap[g]?) : w'.ownsRow B e size (.slice (some ⟨g, 0, none⟩) n c) n xs := by
  obtain ⟨hB, cur, h1, h2, h3, h4, h5⟩ := own_at h
  exact ⟨h.1, .inr ⟨g, c, cur, rfl, hB, hb.trans h1, h3, h4, h5, h2⟩⟩
theorem own_grown (h : w.ownsRow B e size (.slice (some ⟨g, 0, none⟩) n c) n xs) {r : Nat} (hg : w.grownBy w' (some r)) (hne : g ≠ r) : w'.ownsRow B e size (.slice (some ⟨g, 0, none⟩) n c) n xs :=
  own_other h (hg.block g (own_lt h) (by simpa using hne))
theorem own_row (h : w.ownsRow B e size (.slice (some ⟨g, 0, none⟩) n c) n xs) {r : Nat} {er : TypeId} {arr : Array Value} (hr : RowAt w r er arr) (hlt : r < B) : g ≠ r := by
  have := (own_at h).1; omega
end
theorem own_shape {w : World} {B e size : Nat} {v : Value} {n : Nat} {xs : List Value} (h : w.ownsRow B e size v n xs) (hn : 0 < n) : ∃ g c, v = .slice (some ⟨g, 0, none⟩) n c := by
  rcases h.2 with ⟨_, h0⟩ | ⟨g', cap', cur, h', _⟩
  · omega
  · exact ⟨g', cap', h'⟩

/-! The nodes in memory. -/
structure Nv where
  lab : Str
  first : Nat
  count : Nat
  dfn : Bool
  cat : Nat
  own : Nat
  all : Nat
  bel : Nat
def ndc (v : Nv) : List Value := [.string (bs v.lab), .int .i32 v.first, .int .i32 v.count, .bool v.dfn, .int .u32 v.cat, .int .u32 v.own, .int .u32 v.all, .int .u32 v.bel]
def spc (s : St) : List Value := [.int .i64 s.lo, .int .i64 s.hi, .int .i64 s.en]
def hdc (s : St) : List Value := [.int .u64 (hd s.lab)]
theorem ndc_len (v : Nv) : (ndc v).length = 8 := rfl
theorem spc_len (s : St) : (spc s).length = 3 := rfl
theorem hdc_len (s : St) : (hdc s).length = 1 := rfl
def Dy.zero : Dy := ⟨0, 0, false, 0, 0, 0⟩
def nvOf (s : St) (d : Dy) (b : Nat) : Nv := ⟨s.lab, d.first, d.count, d.dfn, d.cat, d.own, d.all, b⟩

/-- The nodes say what the table says. -/
def Tab (nv : List Nv) (ss : List St) (dd : List Dy) : Prop := nv.length = ss.length ∧ ∀ k s, ss[k]? = some s → nv[k]? = some (nvOf s (dd.getD k Dy.zero) 0)
theorem Tab.zero {nv : List Nv} {ss : List St} {dd : List Dy} (h : Tab nv ss dd) : Tab nv ss (dd ++ [Dy.zero]) := by
  refine ⟨h.1, fun k s hs => ?_⟩
  rw [h.2 k s hs]
  congr 2
  rw [List.getD_eq_getElem?_getD, List.getD_eq_getElem?_getD]
  by_cases hk : k < dd.length
  · rw [List.getElem?_append_left hk]
  · rw [List.getElem?_eq_none (by omega), List.getElem?_append_right (by omega)]
    cases hj : k - dd.length with
    | zero => rfl
    | succ j => rfl
theorem Tab.set {nv : List Nv} {ss : List St} {dd : List Dy} {d : Dy} (h : Tab nv ss (dd ++ [d])) {s : St} (hs : ss[dd.length]? = some s) (d' : Dy) : Tab (nv.set dd.length (nvOf s d' 0)) ss (dd ++ [d']) := by
  refine ⟨by rw [List.length_set]; exact h.1, fun k x hx => ?_⟩
  by_cases hk : k = dd.length
  · subst hk
    rw [hs] at hx; cases hx
    have : dd.length < nv.length := by rw [h.1]; exact (List.getElem?_eq_some_iff.1 hs).1
    rw [List.getElem?_set_self this]
    congr 2
    rw [List.getD_eq_getElem?_getD, List.getElem?_append_right (Nat.le_refl _), Nat.sub_self]; rfl
  · rw [List.getElem?_set_ne (Ne.symm hk), h.2 k x hx]
    congr 2
    rw [List.getD_eq_getElem?_getD, List.getD_eq_getElem?_getD]
    by_cases hlt : k < dd.length
    · rw [List.getElem?_append_left hlt, List.getElem?_append_left hlt]
    · rw [List.getElem?_eq_none (by simp; omega), List.getElem?_eq_none (by simp; omega)]
theorem Tab.at {nv : List Nv} {ss : List St} {dd : List Dy} {d : Dy} (h : Tab nv ss (dd ++ [d])) {s : St} (hs : ss[dd.length]? = some s) : nv[dd.length]? = some (nvOf s d 0) := by
  rw [h.2 _ s hs]
  congr 2
  rw [List.getD_eq_getElem?_getD, List.getElem?_append_right (Nat.le_refl _), Nat.sub_self]; rfl
theorem Tab.snoc {nv : List Nv} {ss : List St} {dd : List Dy} (h : Tab nv ss dd) (hl : dd.length ≤ ss.length) (s : St) : Tab (nv ++ [nvOf s Dy.zero 0]) (ss ++ [s]) dd := by
  refine ⟨by rw [List.length_append, List.length_append, h.1]; rfl, fun k x hx => ?_⟩
  by_cases hk : k < ss.length
  · rw [List.getElem?_append_left hk] at hx
    rw [List.getElem?_append_left (by rw [h.1]; exact hk)]; exact h.2 k x hx
  · have hk2 : k = ss.length := by
      have : k < (ss ++ [s]).length := (List.getElem?_eq_some_iff.1 hx).1
      simp at this; omega
    subst hk2
    simp at hx; subst hx
    rw [List.getElem?_append_right (by rw [h.1]; exact Nat.le_refl _), h.1, Nat.sub_self]
    have : dd.getD ss.length Dy.zero = Dy.zero := by
      rw [List.getD_eq_getElem?_getD, List.getElem?_eq_none hl]; rfl
    rw [this]; rfl

/-- The three rows of buildTree. -/
structure M3 (B : Nat) (w : World) (gS cS gN cN gH cH m : Nat) (ss : List St) (nv : List Nv) : Prop where
  len : ss.length = m
  sp : w.ownsRow B 64 3 (.slice (some ⟨gS, 0, none⟩) m cS) m (ss.flatMap spc)
  nd : w.ownsRow B 56 8 (.slice (some ⟨gN, 0, none⟩) m cN) m (nv.flatMap ndc)
  hd : w.ownsRow B 41 1 (.slice (some ⟨gH, 0, none⟩) m cH) m (ss.flatMap hdc)
section
variable {B : Nat} {w w' : World} {gS cS gN cN gH cH m : Nat} {ss : List St} {nv : List Nv}
theorem M3.below (h : M3 B w gS cS gN cN gH cH m ss nv) (hb : Below w.heap.size w w') : M3 B w' gS cS gN cN gH cH m ss nv :=
  ⟨h.len, own_below h.sp hb, own_below h.nd hb, own_below h.hd hb⟩
theorem M3.spCell (h : M3 B w gS cS gN cN gH cH m ss nv) {k f : Nat} {s : St} (hs : ss[k]? = some s) (hf : f < 3) : w.cell? ⟨gS, k * 3 + f, none⟩ = (spc s)[f]? := by
  have hk : k < m := by rw [← h.len]; exact (List.getElem?_eq_some_iff.1 hs).1
  rw [h.sp.cellAt (k * 3 + f) (by omega), flat_get spc_len ss k f s hs hf]
theorem M3.ndCell (h : M3 B w gS cS gN cN gH cH m ss nv) {k f : Nat} {v : Nv} (hv : nv[k]? = some v) (hl : nv.length = m) (hf : f < 8) : w.cell? ⟨gN, k * 8 + f, none⟩ = (ndc v)[f]? := by
  have hk : k < m := by rw [← hl]; exact (List.getElem?_eq_some_iff.1 hv).1
  rw [h.nd.cellAt (k * 8 + f) (by omega), flat_get ndc_len nv k f v hv hf]
theorem M3.store (h : M3 B w gS cS gN cN gH cH m ss nv) {k f : Nat} {v v' : Nv} (hv : nv[k]? = some v) (u : Value) (hf : f < 8) (he : ndc v' = (ndc v).set f u) :
    M3 B (w.setCell ⟨gN, k * 8 + f, none⟩ u) gS cS gN cN gH cH m ss (nv.set k v') := by
  have h1 := own_ne h.sp h.nd (by decide)
  have h2 := own_ne h.hd h.nd (by decide)
  have hs := h.nd.stored (k * 8 + f) u
  rw [flat_set ndc_len nv k f v v' u hv hf he] at hs
  exact ⟨h.len, own_grown h.sp hs.2 h1, hs.1, own_grown h.hd hs.2 h2⟩
end

end Go.Proofs.Qxb6600888a
