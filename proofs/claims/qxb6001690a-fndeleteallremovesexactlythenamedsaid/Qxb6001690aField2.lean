import Derived.Test.Qxb6001690aField
namespace Go.Proofs.Qxb6001690a
open Go.RowKit
set_option linter.unusedVariables false
set_option linter.unusedSimpArgs false

theorem Try.info155 : (Try.prog.info? 155).map (fun i => (i.zero, i.size, i.bytes)) = some (some (.agg #[.string ⟨#[]⟩, .int .i64 0, .int .i64 0, .string ⟨#[]⟩, .bool false, .bool false]), 6, 56) := by kernel_rfl

/-- The line as it is read: without the dash escape where the format reads signed messages. -/
def unescaped (u : Bool) (line : ByteArray) : ByteArray := if u then line else ⟨(Lib.trimPrefix line.data.toList [45, 32]).toArray⟩

/-- The line's name is spelt so. -/
def SpeltOK (u : Bool) (line nm : ByteArray) : Prop :=
  Lib.indexByte (unescaped u line).data.toList 58 = (nm.size : Int) ∧ nm.size ≤ (unescaped u line).size ∧ (unescaped u line).extract 0 nm.size = nm

theorem trim_at (s X : ByteArray) (h : unescaped false s = X) (w : World) :
    Calls Try.prog 100 #[.string s, .string ⟨#[45, 32]⟩] w fun e w' => e = .returned (.string X) ∧ w' = w := by
  subst h
  exact Try.strings_TrimPrefix s ⟨#[45, 32]⟩ w
theorem index_at (X : ByteArray) (m : Nat) (h : Lib.indexByte X.data.toList 58 = (m : Int)) (w : World) :
    Calls Try.prog 101 #[.string X, .int .u8 58] w fun e w' => e = .returned (.int .i64 (m : Int)) ∧ w' = w := by
  have := Try.strings_IndexByte X 58 w
  rw [show (58 : Int).toNat.toUInt8 = 58 from rfl, h] at this
  exact this

theorem fields_succ {arr : Array Value} {n k : Nat} {names : List ByteArray} {nm : ByteArray} {s e : Int} (h1 : k < names.length) (hnm : nm = names[k]) (hlt : k < n) (h : FieldsIn arr n k names) :
    FieldsIn ((((((arr.setIfInBounds (k * 6) (.string nm)).setIfInBounds (k * 6 + 1) (.int .i64 s)).setIfInBounds (k * 6 + 2) (.int .i64 e)).setIfInBounds (k * 6 + 3) (.string ⟨#[]⟩)).setIfInBounds (k * 6 + 4) (.bool false)).setIfInBounds (k * 6 + 5) (.bool false)) n (k + 1) names := by
  subst hnm
  obtain ⟨hs, h⟩ := h
  refine ⟨by simpa using hs, fun j hj hjk => ?_⟩
  by_cases e : j = k
  · subst e
    simp only [Array.getElem?_setIfInBounds, Array.size_setIfInBounds, hs]
    have a0 : j * 6 < n * 6 := by omega
    have a1 : j * 6 + 1 < n * 6 := by omega
    have a2 : j * 6 + 2 < n * 6 := by omega
    have a3 : j * 6 + 3 < n * 6 := by omega
    have a4 : j * 6 + 4 < n * 6 := by omega
    have a5 : j * 6 + 5 < n * 6 := by omega
    simp [a0, a1, a2, a3, a4, a5]
  · have := h j hj (by omega)
    have ne : ∀ x y, x < 6 → y < 6 → k * 6 + x ≠ j * 6 + y := fun x y hx hy => by omega
    simp only [Array.getElem?_setIfInBounds, Array.size_setIfInBounds]
    have n00 := ne 0 0; have n01 := ne 0 1; have n02 := ne 0 2; have n03 := ne 0 3; have n04 := ne 0 4; have n05 := ne 0 5
    have n10 := ne 1 0; have n20 := ne 2 0; have n30 := ne 3 0; have n40 := ne 4 0; have n50 := ne 5 0
    simp only [Nat.add_zero] at n00 n01 n02 n03 n04 n05 n10 n20 n30 n40 n50
    simp [n00, n01, n02, n03, n04, n05, n10, n20, n30, n40, n50, ne]
    exact this

theorem build_rel {p f n k : Nat} {w wr W0 : World} {P : Array Value} {farr : Array Value} {names : List ByteArray} {nm : ByteArray} {s e : Int}
    (hW0 : Below wr.heap.size wr W0) (hB : Below p w wr) (hRP : RowAt wr p 119 P) (hRF : RowAt wr f 155 farr) (hpf : p < f) (h1 : k < names.length) (hnm : nm = names[k]) (hlt : k < n) (h : FieldsIn farr n k names) :
    Below p w ((((((W0.setCell ⟨f, k * 6, none⟩ (.string nm)).setCell ⟨f, k * 6 + 1, none⟩ (.int .i64 s)).setCell ⟨f, k * 6 + 2, none⟩ (.int .i64 e)).setCell ⟨f, k * 6 + 3, none⟩ (.string ⟨#[]⟩)).setCell ⟨f, k * 6 + 4, none⟩ (.bool false)).setCell ⟨f, k * 6 + 5, none⟩ (.bool false)) ∧
    ∃ farr', RowAt ((((((W0.setCell ⟨f, k * 6, none⟩ (.string nm)).setCell ⟨f, k * 6 + 1, none⟩ (.int .i64 s)).setCell ⟨f, k * 6 + 2, none⟩ (.int .i64 e)).setCell ⟨f, k * 6 + 3, none⟩ (.string ⟨#[]⟩)).setCell ⟨f, k * 6 + 4, none⟩ (.bool false)).setCell ⟨f, k * 6 + 5, none⟩ (.bool false)) p 119 P ∧
      RowAt ((((((W0.setCell ⟨f, k * 6, none⟩ (.string nm)).setCell ⟨f, k * 6 + 1, none⟩ (.int .i64 s)).setCell ⟨f, k * 6 + 2, none⟩ (.int .i64 e)).setCell ⟨f, k * 6 + 3, none⟩ (.string ⟨#[]⟩)).setCell ⟨f, k * 6 + 4, none⟩ (.bool false)).setCell ⟨f, k * 6 + 5, none⟩ (.bool false)) f 155 farr' ∧ FieldsIn farr' n (k + 1) names := by
  have hpl := hRP.lt
  have b0 : Below p w W0 := hB.trans (hW0.mono (by omega))
  have r0 := hRP.below hW0 hpl
  have f0 := hRF.below hW0 hRF.lt
  have ne : p ≠ f := by omega
  refine ⟨?_, _, ?_, ((((((f0.set _ _).set _ _).set _ _).set _ _).set _ _).set _ _), fields_succ h1 hnm hlt h⟩
  · exact (((((b0.setCell (p := ⟨f, k * 6, none⟩) (by show p ≤ f; omega) _).setCell (p := ⟨f, k * 6 + 1, none⟩) (by show p ≤ f; omega) _).setCell (p := ⟨f, k * 6 + 2, none⟩) (by show p ≤ f; omega) _).setCell (p := ⟨f, k * 6 + 3, none⟩) (by show p ≤ f; omega) _).setCell (p := ⟨f, k * 6 + 4, none⟩) (by show p ≤ f; omega) _).setCell (p := ⟨f, k * 6 + 5, none⟩) (by show p ≤ f; omega) _
  · exact (((((r0.setOther ne _ _).setOther ne _ _).setOther ne _ _).setOther ne _ _).setOther ne _ _).setOther ne _ _

end Go.Proofs.Qxb6001690a
