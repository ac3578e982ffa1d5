import Derived.Test.Qxb6001690aRnd
import Derived.Lib.SliceRun
namespace Go.Proofs.Qxb6001690a
open Go.RowKit
set_option linter.unusedVariables false
set_option linter.unusedSimpArgs false

/-- A field and its line. -/
structure Ent where
  name : ByteArray
  value : ByteArray
  line : Int
def HasF (A : Array Value) (x : Ent) (j : Nat) : Prop := A[j * 2]? = some (.string x.name) ∧ A[j * 2 + 1]? = some (.string x.value)
def HasL (L : Array Value) (x : Ent) (j : Nat) : Prop := L[j]? = some (.int .i64 x.line)
/-- What is done stands in front; what is to come stands still where it stood. -/
def Part (H : Ent → Nat → Prop) (ms d : List Ent) (i : Nat) : Prop := (∀ j (h : j < d.length), H d[j] j) ∧ (∀ j (h : j < ms.length), i ≤ j → H ms[j] j)
theorem Part.skip {H : Ent → Nat → Prop} {ms d : List Ent} {i : Nat} (h : Part H ms d i) : Part H ms d (i + 1) := ⟨h.1, fun j hj hi => h.2 j hj (by omega)⟩
theorem Part.put {H H' : Ent → Nat → Prop} {ms d : List Ent} {i : Nat} (h : Part H ms d i) (hd : d.length ≤ i) (hi : i < ms.length) (hk : ∀ x j, j ≠ d.length → H x j → H' x j) (hx : H' ms[i] d.length) : Part H' ms (d ++ [ms[i]]) (i + 1) := by
  refine ⟨fun j hj => ?_, fun j hj hij => hk _ _ (by omega) (h.2 j hj (by omega))⟩
  by_cases e : j < d.length
  · rw [List.getElem_append_left e]; exact hk _ _ (by omega) (h.1 j e)
  · have : j = d.length := by simp at hj; omega
    subst this
    rw [List.getElem_append_right (Nat.le_refl _)]
    simpa using hx
theorem HasF.set {A : Array Value} {x : Ent} {k : Nat} (hk : k * 2 + 1 < A.size) : HasF ((A.setIfInBounds (k * 2) (.string x.name)).setIfInBounds (k * 2 + 1) (.string x.value)) x k := by
  refine ⟨?_, ?_⟩
  · rw [Array.getElem?_setIfInBounds_ne (by omega), Array.getElem?_setIfInBounds_self_of_lt (by omega)]
  · rw [Array.getElem?_setIfInBounds_self_of_lt (by simp; omega)]
theorem HasF.other {A : Array Value} {x : Ent} {j k : Nat} {u v : Value} (hj : j ≠ k) (h : HasF A x j) : HasF ((A.setIfInBounds (k * 2) u).setIfInBounds (k * 2 + 1) v) x j := by
  refine ⟨?_, ?_⟩
  · rw [Array.getElem?_setIfInBounds_ne (by omega), Array.getElem?_setIfInBounds_ne (by omega)]; exact h.1
  · rw [Array.getElem?_setIfInBounds_ne (by omega), Array.getElem?_setIfInBounds_ne (by omega)]; exact h.2
theorem HasL.set {A : Array Value} {x : Ent} {k : Nat} (hk : k < A.size) : HasL (A.setIfInBounds k (.int .i64 x.line)) x k := by
  unfold HasL; rw [Array.getElem?_setIfInBounds_self_of_lt (by omega)]
theorem HasL.other {A : Array Value} {x : Ent} {j k : Nat} {u : Value} (hj : j ≠ k) (h : HasL A x j) : HasL (A.setIfInBounds k u) x j := by
  unfold HasL; rw [Array.getElem?_setIfInBounds_ne (by omega)]; exact h

theorem filter_take_succ {p : Ent → Bool} (ms : List Ent) (i : Nat) (hi : i < ms.length) : (ms.take (i + 1)).filter p = (ms.take i).filter p ++ (if p ms[i] then [ms[i]] else []) := by
  rw [List.take_succ_eq_append_getElem hi, List.filter_append]
  by_cases h : p ms[i] <;> simp [h]

/-! clear(s.Fields[k:]) -/
theorem RowAt.setCells {e : TypeId} {g : Nat} : ∀ (vs : List Value) (o : Nat) (w : World) (arr : Array Value), RowAt w g e arr → ∃ arr', RowAt (w.setCells g o vs) g e arr' ∧ arr'.size = arr.size ∧ ∀ j, j < o → arr'[j]? = arr[j]?
  | [], o, w, arr, h => ⟨arr, h, rfl, fun _ _ => rfl⟩
  | v :: r, o, w, arr, h => by
    obtain ⟨arr', h1, h2, h3⟩ := RowAt.setCells r (o + 1) _ _ (h.set o v)
    refine ⟨arr', h1, by simpa using h2, fun j hj => ?_⟩
    rw [h3 j (by omega), Array.getElem?_setIfInBounds_ne (by omega)]
theorem Kept.setCells {S : Nat → Prop} {g : Nat} (hs : S g) : ∀ (vs : List Value) (o : Nat) (w : World), Kept S w (w.setCells g o vs)
  | [], o, w => Kept.of_below (Below.refl _ _)
  | v :: r, o, w => (Kept.set w g o v hs).trans (Kept.setCells hs r (o + 1) _)

theorem elem53 : Try.prog.elem 53 = 57 := by kernel_rfl

theorem zero57 (w : World) : (zeroValue 57).run Try.prog w = .ok (.agg #[.string ⟨#[]⟩, .string ⟨#[]⟩]) w := by
  obtain ⟨i, hi, hz, hs, hb⟩ := info_parts Try.info57
  have e : Try.t57.zero = some (.agg #[.string ⟨#[]⟩, .string ⟨#[]⟩]) := by kernel_rfl
  simp [zeroValue, hi, hz, e]

theorem clear_fields (f k m c : Nat) (A : Array Value) (w : World) (hrow : RowAt w f 57 A) (hsz : (k + m) * 2 ≤ A.size) :
    ∃ w', (∀ ty, (Builtin.clear_ #[53] ty #[.slice (some ⟨f, k * 2, none⟩) m c]).run Try.prog w = .ok (.tuple #[]) w') ∧ (∃ A', RowAt w' f 57 A' ∧ A'.size = A.size ∧ ∀ j, j < k * 2 → A'[j]? = A[j]?) ∧ Kept (· = f) w w' := by
  cases m with
  | zero => exact ⟨w, fun ty => by simp [Builtin.clear_, run_underlying Try.underlying53], ⟨A, hrow, rfl, fun _ _ => rfl⟩, Kept.of_below (Below.refl _ _)⟩
  | succ m =>
    obtain ⟨vs, hvs⟩ : ∃ vs, (Builtin.zeroCells #[.string ⟨#[]⟩, .string ⟨#[]⟩] (m + 1)).toList = vs := ⟨_, rfl⟩
    have hl : vs.length = (m + 1) * 2 := by rw [← hvs]; simp [Builtin.zeroCells]
    have h1 : ∀ v ∈ vs, v.oneCell' = true := by
      intro v hv
      rw [← hvs] at hv
      simp [Builtin.zeroCells] at hv
      obtain ⟨i, _, rfl⟩ := hv
      rcases Nat.mod_two_eq_zero_or_one i with e | e <;> rw [e] <;> rfl
    have hst := run_storeCells_cells (P := Try.prog) f (k * 2) vs 0 w (fun j hj => by rw [Nat.add_zero, hrow.cell, Array.getElem?_eq_getElem (by omega)]; rfl) (fun j hj => hrow.frozen _) h1
    simp only [Nat.add_zero] at hst
    obtain ⟨A', g1, g2, g3⟩ := RowAt.setCells vs (k * 2) w A hrow
    refine ⟨w.setCells f (k * 2) vs, fun ty => ?_, ⟨A', g1, g2, g3⟩, Kept.setCells (S := (· = f)) rfl vs _ w⟩
    have hcz : (Value.agg #[.string ⟨#[]⟩, .string ⟨#[]⟩]).cells = #[.string ⟨#[]⟩, .string ⟨#[]⟩] := rfl
    simp [Builtin.clear_, run_underlying Try.underlying53, zero57, hcz, hvs, hst]

/-- 'clear(s.Fields[k:])', the slicing and the clearing. -/
theorem clear_tail (f k n c : Nat) (A : Array Value) (w : World) (hrow : RowAt w f 57 A) (hk : k ≤ n) (hn : n ≤ c) (hsz : c * 2 ≤ A.size) :
    ∃ X w', (∀ w0, (Instr.slice 53 (.slice (some ⟨f, 0, none⟩) n c) (some (.int .i64 (k : Int))) none none).run Try.prog w0 = .ok (.slice X (n - k) (c - k)) w0) ∧
      (∀ ty, (Builtin.clear_ #[53] ty #[.slice X (n - k) (c - k)]).run Try.prog w = .ok (.tuple #[]) w') ∧ (∃ A', RowAt w' f 57 A' ∧ A'.size = A.size ∧ ∀ j, j < k * 2 → A'[j]? = A[j]?) ∧ Kept (· = f) w w' := by
  obtain ⟨w', h1, h2, h3⟩ := clear_fields f k (n - k) (c - k) A w hrow (by omega)
  have hs : ∀ w0, (sizeOf 57).run Try.prog w0 = .ok 2 w0 := Try.sizeOf57
  have hsl : ∀ w0, (Instr.slice 53 (.slice (some ⟨f, 0, none⟩) n c) (some (.int .i64 (k : Int))) none none).run Try.prog w0 = .ok (.slice (if c = k then some ⟨f, 0, none⟩ else some ⟨f, k * 2, none⟩) (n - k) (c - k)) w0 := by
    intro w0
    have hr := run_slice_l (P := Try.prog) (t := 53) (w := w0) (a := some ⟨f, 0, none⟩) (len := n) (cap := c) (by rw [elem53]; exact Try.underlying53) .i64 (k : Int) (by omega) (by omega)
    rw [hr, elem53]
    simp [hs, Result.andThen, sliced, Addr.add]
    by_cases h0 : k = 0
    · subst h0; simp
    · have h2k : ¬ k * 2 = 0 := by omega
      simp only [h2k, if_false]
  by_cases hc : c = k
  · refine ⟨_, w, hsl, fun ty => ?_, ⟨A, hrow, rfl, fun _ _ => rfl⟩, Kept.of_below (Below.refl _ _)⟩
    have : n - k = 0 := by omega
    rw [this, if_pos hc]
    simp [Builtin.clear_, run_underlying Try.underlying53]
  · refine ⟨_, w', hsl, fun ty => ?_, h2, h3⟩
    rw [if_neg hc]
    exact h1 ty

end Go.Proofs.Qxb6001690a
