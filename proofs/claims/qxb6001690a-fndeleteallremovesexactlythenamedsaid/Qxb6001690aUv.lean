import Derived.Lib.Varint
import Derived.Lib.VarintDec
namespace Go.Proofs.Qxb6001690a

/-! What is written as a uvarint is read back: no Go in sight. -/
theorem toU8 {n : Nat} (h : n < 256) : n.toUInt8.toNat = n := by simp [Nat.toUInt8]; omega

theorem pow_step (i : Nat) : 2 ^ (7 * (i + 1)) = 128 * 2 ^ (7 * i) := by
  rw [show 7 * (i + 1) = 7 + 7 * i by omega, Nat.pow_add]

theorem uvarintFrom_back : ∀ (f x i acc : Nat) (rest : List UInt8), x < f → i ≤ 9 → x * 2 ^ (7 * i) < 2 ^ 64 →
    Lib.uvarintFrom i acc (Lib.uvarint x ++ rest) = (acc + x * 2 ^ (7 * i), (i : Int) + (Lib.uvarint x).length)
  | 0, x, _, _, _, h, _, _ => by omega
  | f + 1, x, i, acc, rest, hf, hi, hx => by
    by_cases hs : x < 128
    · rw [Lib.uvarint_small hs]
      have hb := toU8 (show x < 256 by omega)
      simp only [List.cons_append, List.nil_append, Lib.uvarintFrom, hb, List.length_cons, List.length_nil]
      rw [if_neg (by omega), if_pos hs, if_neg]
      · rfl
      · rintro ⟨rfl, h1⟩
        have : 2 * 2 ^ (7 * 9) ≤ x * 2 ^ (7 * 9) := Nat.mul_le_mul_right _ (by omega)
        have e : 2 * 2 ^ (7 * 9) = 2 ^ 64 := by decide
        omega
    · have hs' : 128 ≤ x := by omega
      rw [Lib.uvarint_big hs']
      have hb := toU8 (show x % 128 + 128 < 256 by omega)
      have hpow := pow_step i
      have hlow : 128 * 2 ^ (7 * i) ≤ x * 2 ^ (7 * i) := Nat.mul_le_mul_right _ hs'
      have hi9 : i ≠ 9 := by
        rintro rfl
        have e : 128 * 2 ^ (7 * 9) = 2 ^ 70 := by decide
        have : (2 : Nat) ^ 64 < 2 ^ 70 := by decide
        omega
      have hdiv : x / 128 * 2 ^ (7 * (i + 1)) ≤ x * 2 ^ (7 * i) := by
        rw [hpow, ← Nat.mul_assoc]
        exact Nat.mul_le_mul_right _ (Nat.div_mul_le_self x 128)
      have hrec := uvarintFrom_back f (x / 128) (i + 1) (acc + (x % 128 + 128) % 128 * 2 ^ (7 * i)) rest (by omega) (by omega) (by omega)
      simp only [List.cons_append, Lib.uvarintFrom, hb, List.length_cons]
      rw [if_neg (by omega), if_neg (by omega), hrec]
      have e1 : (x % 128 + 128) % 128 = x % 128 := by omega
      have e2 : acc + x % 128 * 2 ^ (7 * i) + x / 128 * 2 ^ (7 * (i + 1)) = acc + x * 2 ^ (7 * i) := by
        have e3 : x * 2 ^ (7 * i) = (x % 128 + 128 * (x / 128)) * 2 ^ (7 * i) := by rw [Nat.mod_add_div]
        rw [hpow, e3, Nat.add_mul, ← Nat.mul_assoc, Nat.mul_comm (x / 128) 128, Nat.add_assoc]
      rw [e1, e2]
      refine Prod.ext rfl ?_
      show ((i + 1 : Nat) : Int) + ((Lib.uvarint (x / 128)).length : Int) = (i : Int) + (((Lib.uvarint (x / 128)).length + 1 : Nat) : Int)
      omega

theorem uvarintDec_back {x : Nat} (rest : List UInt8) (h : x < 2 ^ 64) : Lib.uvarintDec (Lib.uvarint x ++ rest) = (x, ((Lib.uvarint x).length : Int)) := by
  unfold Lib.uvarintDec
  rw [uvarintFrom_back (x + 1) x 0 0 rest (by omega) (by omega) (by simpa using h)]
  simp

end Go.Proofs.Qxb6001690a
