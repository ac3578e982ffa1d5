import Derived.Test.Qxb6600888aMem
import Derived.ProofKit
import Derived.OpenShut
import Derived.ShutString
namespace Go.Proofs.Qxb6600888a
open Go.ChangeShapes Go.WideShapes Go.ChangeAt Go.RowKit

theorem own : ownKnob Try.prog.godebug = none := by kernel_rfl
theorem laidOut : laidOutB Try.prog = true := by kernel_rfl
theorem cells9 : Try.prog.cellsOf 9 = 1 := by kernel_rfl
theorem cells38 : Try.prog.cellsOf 38 = 1 := by kernel_rfl

/-- A slice of one-cell elements that came in. -/
theorem open_cells {H : Type} {enc : TypeId × Value → H} {P : Program} {w : World} {sp : Nat → Bool} {held : Bool} {α : Type} (f : α → Value) (Q : α → Prop) {t e : TypeId} {v : Value} {d : DataW H} {ps : List MemPlace}
    (ht : P.underlying t = some (.slice e)) (hc : P.cellsOf e = 1) (hsh : ∀ n cs y, DataW.trod enc P w 0 sp held n e cs = some y → ∃ x, cs = [f x] ∧ Q x)
    (hv : ∃ a len cap, v = .slice a len cap) (h : DataW.Trod enc P w 0 sp held t v d ps) :
    ∃ (a : Option Addr) (n c : Nat) (xs : List α), v = .slice a n c ∧ xs.length = n ∧ n ≤ maxLen ∧ (∀ x ∈ xs, Q x) ∧ CellsAt w a (xs.map f) ∧ (a = none → n = 0) := by
  obtain ⟨a0, n, c, rfl⟩ := hv
  obtain ⟨fuel, hf⟩ := h
  rcases DataW.trod_slice ht hf with ⟨hcs, _⟩ | ⟨a, len, cap, elems, rest, m, _, hcs, _, _, hl, hm, hlen, hel, _, _⟩
  · simp [Value.cells] at hcs
    obtain ⟨rfl, rfl, rfl⟩ := hcs
    exact ⟨none, 0, 0, [], rfl, rfl, Nat.zero_le _, fun x hx => by simp at hx, fun k hk => by simp at hk, fun _ => rfl⟩
  · simp [Value.cells] at hcs
    obtain ⟨rfl, rfl, rfl⟩ := hcs
    have each : ∀ i, i < n → ∃ x, w.cell? (a.add i) = some (f x) ∧ Q x := by
      intro i hi
      have h1 := hel i hi
      rw [List.getElem?_eq_getElem (by omega), hc, Nat.mul_one, Option.bind_eq_some_iff] at h1
      obtain ⟨cs, hcs, hy⟩ := h1
      obtain ⟨x, rfl, hq⟩ := hsh _ _ _ hy
      exact ⟨x, cell_of_cells?_one hcs, hq⟩
    have build : ∀ k, k ≤ n → ∃ xs : List α, xs.length = k ∧ (∀ x ∈ xs, Q x) ∧ ∀ i (hi : i < xs.length), w.cell? (a.add i) = some (f xs[i]) := by
      intro k
      induction k with
      | zero => intro _; exact ⟨[], rfl, fun x hx => by simp at hx, fun i hi => by simp at hi⟩
      | succ k ih =>
        intro hk
        obtain ⟨xs, h1, h2, h3⟩ := ih (by omega)
        obtain ⟨x, hx, hq⟩ := each k (by omega)
        refine ⟨xs ++ [x], by simp [h1], fun y hy => ?_, fun i hi => ?_⟩
        · rcases List.mem_append.1 hy with hy | hy
          · exact h2 y hy
          · simp at hy; subst hy; exact hq
        · by_cases e : i < xs.length
          · rw [List.getElem_append_left e]; exact h3 i e
          · have : i = k := by simp at hi; omega
            subst this
            rw [List.getElem_append_right (by omega)]
            simpa [h1] using hx
    obtain ⟨xs, h1, h2, h3⟩ := build n (Nat.le_refl _)
    refine ⟨some a, n, c, xs, rfl, h1, by omega, h2, fun k hk => ?_, fun h => by simp at h⟩
    have hk' : k < xs.length := by simpa using hk
    have hcell := h3 k hk'
    obtain ⟨b, off, spot⟩ := a
    have hspot : spot = none := by simpa [Addr.add] using World.cell?_spot (h3 0 (by omega))
    subst hspot
    refine ⟨b, off, rfl, ?_⟩
    rw [List.getElem_map, ← add_plain]
    exact hcell

section
variable {H : Type} {enc : TypeId × Value → H} {w : World} {sp : Nat → Bool} {held : Bool} {r : Reach} {base : Nat} {v : Value} {d : DataW H} {ps : List MemPlace}
theorem open_strs_arg (hv : ∃ a len cap, v = .slice a len cap) (h : DataW.Trod enc Try.prog w 0 sp held 22 v d ps) :
    ∃ (a : Option Addr) (n c : Nat) (xs : List ByteArray), v = .slice a n c ∧ xs.length = n ∧ n ≤ maxLen ∧ (∀ x ∈ xs, x.size ≤ maxLen) ∧ CellsAt w a (xs.map .string) ∧ (a = none → n = 0) :=
  open_cells Value.string (fun s => s.size ≤ maxLen) Try.underlying22 cells9 (fun _ _ _ h => by obtain ⟨s, h1, _, h2⟩ := DataW.trod_string Try.underlying9 h; exact ⟨s, h1, h2⟩) hv h
theorem open_u32s_arg (hv : ∃ a len cap, v = .slice a len cap) (h : DataW.Trod enc Try.prog w 0 sp held 23 v d ps) :
    ∃ (a : Option Addr) (n c : Nat) (xs : List Int), v = .slice a n c ∧ xs.length = n ∧ n ≤ maxLen ∧ (∀ x ∈ xs, (Lit.int .u32 x).wf = true) ∧ CellsAt w a (xs.map (.int .u32)) ∧ (a = none → n = 0) :=
  open_cells (Value.int .u32) (fun n => (Lit.int .u32 n).wf = true) Try.underlying23 cells38 (fun _ _ _ h => by obtain ⟨s, h1, _, h2⟩ := DataW.trod_int Try.underlying38 h; exact ⟨s, h1, h2⟩) hv h
end

end Go.Proofs.Qxb6600888a
