import Derived.Test.Qxb6601068aWalk
import Derived.Laws.BitsLemmas
import Derived.Laws.Strings
namespace Go.Proofs.Qxb6601068a
open Go.RowKit
set_option linter.unusedVariables false
set_option linter.unusedSimpArgs false

theorem and15 (x : Int) (h0 : 0 ≤ x) (h1 : x ≤ 65535) : bits BinOp.and IntKind.u16 x 15 = x % 16 := by
  have h := bits_mask .u16 16 (by decide) (fun n a b => by rw [IntKind.wrap_u16]; omega) 4 (by decide) x h0 (by omega)
  have e : ((2 : Int) ^ 4 - 1) = 15 := by decide
  have e2 : ((2 : Int) ^ 4) = 16 := by decide
  rw [e, e2] at h
  exact h

abbrev hexL : ByteArray := ⟨#[48, 49, 50, 51, 52, 53, 54, 55, 56, 57, 97, 98, 99, 100, 101, 102]⟩
abbrev hexU : ByteArray := ⟨#[48, 49, 50, 51, 52, 53, 54, 55, 56, 57, 65, 66, 67, 68, 69, 70]⟩
theorem ltL {k : Nat} (h : k < 16) : k < hexL.size := h
theorem ltU {k : Nat} (h : k < 16) : k < hexU.size := h

theorem four_list (x3 x2 x1 x0 : UInt8) : (four [(x3.toNat : Int), (x2.toNat : Int), (x1.toNat : Int), (x0.toNat : Int)]).toList = [x3, x2, x1, x0] := by
  rw [ByteArray.toList_eq]
  simp [four]

/-- What validTextEscape answers, of the four bytes. -/
def validB (x3 x2 x1 x0 : UInt8) : Bool :=
  ([x3, x2, x1, x0] == [48, 48, 51, 99]) || (([x3, x2, x1, x0] == [48, 48, 51, 101]) || (([x3, x2, x1, x0] == [48, 48, 50, 54]) || (([x3, x2, x1, x0] == [50, 48, 50, 56]) || (([x3, x2, x1, x0] == [50, 48, 50, 57]) ||
    (((x3.toNat : Int) == 48) && (((x2.toNat : Int) == 48) && (((x1.toNat : Int) == 48) || ((x1.toNat : Int) == 49))))))))

set_option maxHeartbeats 1000000 in
theorem zz_any (b : Nat) (x3 x2 x1 x0 : UInt8) (m : Int) (v : Bool) (w : World) (hs : Six w b 0 [92, 117, (x3.toNat : Int), (x2.toNat : Int), (x1.toNat : Int), (x0.toNat : Int)]) (hm : w.cell? ⟨0, 0, none⟩ = some (.int .i64 m))
    (g3 : 48 ≤ x3.toNat ∧ x3.toNat ≤ 102 ∧ x3.toNat ≠ 92) (g2 : 48 ≤ x2.toNat ∧ x2.toNat ≤ 102 ∧ x2.toNat ≠ 92) (g1 : 48 ≤ x1.toNat ∧ x1.toNat ≤ 102 ∧ x1.toNat ≠ 92) (g0 : 48 ≤ x0.toNat ∧ x0.toNat ≤ 102 ∧ x0.toNat ≠ 92) (hv : validB x3 x2 x1 x0 = v) :
    Calls Try.prog 21 #[.slice (some ⟨b, 0, none⟩) 6 6] w fun e w' => e = .returned (.bool (!v)) ∧ Below w.heap.size w w' := by
  have K : Calls Try.prog 25 #[.slice (some ⟨b, 0, none⟩) 6 6] w fun e w' => e = .returned (.bool (!v)) ∧ Below w.heap.size w w' := by
    refine may_any b _ _ _ _ m v w hs hm (by omega) (by omega) (by omega) (by omega) ?_
    intro w' hb
    have hs' := hs.below hb
    have h := valid_any b 2 4 x3.toNat x2.toNat x1.toNat x0.toNat w' _ _ _ _ _ _ _ _ _ (by omega) (hs' 2 (by simp)) (hs' 3 (by simp)) (hs' 4 (by simp)) (hs' 5 (by simp)) rfl rfl rfl rfl rfl rfl rfl rfl rfl
    rw [four_list] at h
    rw [← hv]
    exact h
  replace K := hid K
  clear hs hm
  go_enter Try.func21, Try.ntmps21
  go_wp2_with (go_at_call 25; refine Calls.mono K.out ?_; rintro e w' ⟨rfl, hb⟩; replace hb := hid hb)
  go_ret
  exact ⟨rfl, hb.out⟩

theorem rangeL : ∀ k : Fin 16, 48 ≤ (hexL[k.val]'(ltL k.2)).toNat ∧ (hexL[k.val]'(ltL k.2)).toNat ≤ 102 ∧ (hexL[k.val]'(ltL k.2)).toNat ≠ 92 := by decide
theorem rangeU : ∀ k : Fin 16, 48 ≤ (hexU[k.val]'(ltU k.2)).toNat ∧ (hexU[k.val]'(ltU k.2)).toNat ≤ 102 ∧ (hexU[k.val]'(ltU k.2)).toNat ≠ 92 := by decide
/-- The digit of a number. -/
theorem digL : ∀ k : Fin 16, ((hexL[k.val]'(ltL k.2)) = 48 ↔ k.val = 0) ∧ ((hexL[k.val]'(ltL k.2)) = 49 ↔ k.val = 1) ∧ ((hexL[k.val]'(ltL k.2)) = 50 ↔ k.val = 2) ∧ ((hexL[k.val]'(ltL k.2)) = 51 ↔ k.val = 3) ∧ ((hexL[k.val]'(ltL k.2)) = 54 ↔ k.val = 6) ∧ ((hexL[k.val]'(ltL k.2)) = 56 ↔ k.val = 8) ∧ ((hexL[k.val]'(ltL k.2)) = 57 ↔ k.val = 9) ∧ ((hexL[k.val]'(ltL k.2)) = 99 ↔ k.val = 12) ∧ ((hexL[k.val]'(ltL k.2)) = 101 ↔ k.val = 14) := by decide
theorem digU : ∀ k : Fin 16, ((hexU[k.val]'(ltU k.2)) = 48 ↔ k.val = 0) ∧ ((hexU[k.val]'(ltU k.2)) = 49 ↔ k.val = 1) ∧ ((hexU[k.val]'(ltU k.2)) = 50 ↔ k.val = 2) ∧ ((hexU[k.val]'(ltU k.2)) = 51 ↔ k.val = 3) ∧ ((hexU[k.val]'(ltU k.2)) = 54 ↔ k.val = 6) ∧ ((hexU[k.val]'(ltU k.2)) = 56 ↔ k.val = 8) ∧ ((hexU[k.val]'(ltU k.2)) = 57 ↔ k.val = 9) ∧ ((hexU[k.val]'(ltU k.2)) = 99 ↔ k.val = 16) ∧ ((hexU[k.val]'(ltU k.2)) = 101 ↔ k.val = 16) := by decide

theorem validB_iff (x3 x2 x1 x0 : UInt8) : validB x3 x2 x1 x0 = true ↔ (x3 = 48 ∧ x2 = 48 ∧ x1 = 51 ∧ x0 = 99) ∨ (x3 = 48 ∧ x2 = 48 ∧ x1 = 51 ∧ x0 = 101) ∨ (x3 = 48 ∧ x2 = 48 ∧ x1 = 50 ∧ x0 = 54) ∨ (x3 = 50 ∧ x2 = 48 ∧ x1 = 50 ∧ x0 = 56) ∨ (x3 = 50 ∧ x2 = 48 ∧ x1 = 50 ∧ x0 = 57) ∨ (x3 = 48 ∧ x2 = 48 ∧ (x1 = 48 ∨ x1 = 49)) := by
  have q : ∀ (x : UInt8) (n : Nat), n < 256 → (((x.toNat : Int) == (n : Int)) = true ↔ x = UInt8.ofNat n) := by
    intro x n hn
    rw [beq_iff_eq]
    constructor
    · intro h
      have : x.toNat = n := by omega
      rw [← this]; simp
    · intro h
      subst h
      simp only [UInt8.toNat_ofNat']
      omega
  have q48 := fun x => q x 48 (by omega)
  have q49 := fun x => q x 49 (by omega)
  unfold validB
  simp only [Bool.or_eq_true, Bool.and_eq_true, beq_iff_eq, List.cons.injEq, and_true]
  simp only [beq_iff_eq] at q48 q49
  simp only [show ((48 : Nat) : Int) = 48 from rfl, show ((49 : Nat) : Int) = 49 from rfl] at q48 q49
  simp only [q48, q49]
  rfl

theorem validL (k3 k2 k1 k0 : Nat) (q3 : k3 < 16) (q2 : k2 < 16) (q1 : k1 < 16) (q0 : k0 < 16) :
    validB (hexL[k3]'(ltL q3)) (hexL[k2]'(ltL q2)) (hexL[k1]'(ltL q1)) (hexL[k0]'(ltL q0)) = true ↔ (let n := 4096 * k3 + 256 * k2 + 16 * k1 + k0; n < 32 ∨ n = 38 ∨ n = 8232 ∨ n = 8233 ∨ n = 60 ∨ n = 62) := by
  rw [validB_iff]
  have d3 := digL ⟨k3, q3⟩
  have d2 := digL ⟨k2, q2⟩
  have d1 := digL ⟨k1, q1⟩
  have d0 := digL ⟨k0, q0⟩
  simp only at d3 d2 d1 d0
  simp only [d3, d2, d1, d0]
  omega
theorem validU (k3 k2 k1 k0 : Nat) (q3 : k3 < 16) (q2 : k2 < 16) (q1 : k1 < 16) (q0 : k0 < 16) :
    validB (hexU[k3]'(ltU q3)) (hexU[k2]'(ltU q2)) (hexU[k1]'(ltU q1)) (hexU[k0]'(ltU q0)) = true ↔ (let n := 4096 * k3 + 256 * k2 + 16 * k1 + k0; n < 32 ∨ n = 38 ∨ n = 8232 ∨ n = 8233) := by
  rw [validB_iff]
  have d3 := digU ⟨k3, q3⟩
  have d2 := digU ⟨k2, q2⟩
  have d1 := digU ⟨k1, q1⟩
  have d0 := digU ⟨k0, q0⟩
  simp only at d3 d2 d1 d0
  simp only [d3, d2, d1, d0]
  omega
end Go.Proofs.Qxb6601068a
