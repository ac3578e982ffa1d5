import Derived.WalkKit
namespace Go.Proofs.Qxb6001690a
open Go.RowKit

/-! Plain functions: no Go in sight. -/

def foldI (rule c : Int) : Int := if rule = 0 ∧ 65 ≤ c ∧ c ≤ 90 then c + 32 else c

def folded (rule : Int) (s : ByteArray) : List Int := s.data.toList.map fun c => foldI rule (c.toNat : Int)

/-- Are the two the same name by the rule? -/
def sameB (rule : Int) (a b : ByteArray) : Bool := decide (folded rule a = folded rule b)

theorem folded_length (rule : Int) (s : ByteArray) : (folded rule s).length = s.size := by
  unfold folded; simp

theorem sameB_false_of_size {rule : Int} {a b : ByteArray} (h : a.size ≠ b.size) : sameB rule a b = false := by
  unfold sameB
  refine decide_eq_false fun e => h ?_
  have := congrArg List.length e
  simpa [folded_length] using this

theorem folded_get (rule : Int) (s : ByteArray) (k : Nat) (h : k < s.size) : (folded rule s)[k]'(by rw [folded_length]; exact h) = foldI rule (s[k].toNat : Int) := by
  unfold folded
  simp
  rfl

theorem sameB_false_at {rule : Int} {a b : ByteArray} {k : Nat} (ha : k < a.size) (hb : k < b.size)
    (h : foldI rule (a[k].toNat : Int) ≠ foldI rule (b[k].toNat : Int)) : sameB rule a b = false := by
  unfold sameB
  refine decide_eq_false fun e => h ?_
  rw [← folded_get rule a k ha, ← folded_get rule b k hb]
  simp only [e]

theorem sameB_true {rule : Int} {a b : ByteArray} (hs : a.size = b.size)
    (h : ∀ k (ha : k < a.size) (hb : k < b.size), foldI rule (a[k].toNat : Int) = foldI rule (b[k].toNat : Int)) : sameB rule a b = true := by
  unfold sameB
  refine decide_eq_true ?_
  refine List.ext_getElem (by simp [folded_length, hs]) fun k h1 h2 => ?_
  rw [folded_length] at h1 h2
  rw [folded_get rule a k h1, folded_get rule b k h2]
  exact h k h1 h2

theorem sameB_refl (rule : Int) (a : ByteArray) : sameB rule a a = true := decide_eq_true rfl

/-- Does the string hold the byte? -/
def hasB (s : ByteArray) (c : Int) : Bool := s.data.toList.any fun x => decide ((x.toNat : Int) = c)

theorem hasB_true {s : ByteArray} {c : Int} {k : Nat} (hk : k < s.size) (h : (s[k].toNat : Int) = c) : hasB s c = true := by
  unfold hasB
  refine List.any_eq_true.2 ⟨s[k], ?_, decide_eq_true h⟩
  exact List.getElem_mem (l := s.data.toList) (by simpa using hk)

theorem hasB_false {s : ByteArray} {c : Int} (h : ∀ k (hk : k < s.size), (s[k].toNat : Int) ≠ c) : hasB s c = false := by
  unfold hasB
  refine List.any_eq_false.2 fun x hx => ?_
  obtain ⟨k, hk, rfl⟩ := List.getElem_of_mem hx
  have h1 := h k (by simpa using hk)
  have h2 : (s.data.toList[k]) = s[k]'(by simpa using hk) := by simp; rfl
  rw [h2]
  simpa using h1

/-! The size guards. -/
def strBytes (t : Int) (s : ByteArray) : Int := if 1048576 < t ∨ 1048576 < (s.size : Int) then 1048577 else t + s.size
def strsBytes (t : Int) (ss : List ByteArray) : Int :=
  if 1048576 < t ∨ 1048576 < (ss.length : Int) then 1048577 else ss.foldl strBytes (t + 16 * ss.length)
def flatBytes (t : Int) (k n : Nat) : Int := if 1048576 < t ∨ 1048576 < (n : Int) then 1048577 else t + k * n

theorem strBytes_bd {t : Int} (s : ByteArray) (h : 0 ≤ t) : 0 ≤ strBytes t s ∧ strBytes t s ≤ 2097152 := by
  unfold strBytes; split <;> omega
theorem foldBytes_bd (ss : List ByteArray) (t : Int) (h : 0 ≤ t) (h' : t ≤ 17825792) : 0 ≤ ss.foldl strBytes t ∧ ss.foldl strBytes t ≤ 17825792 := by
  induction ss generalizing t with
  | nil => exact ⟨h, h'⟩
  | cons s ss ih => simp only [List.foldl_cons]; have := strBytes_bd s h; exact ih _ this.1 (by omega)
theorem strsBytes_bd (ss : List ByteArray) (t : Int) (h : 0 ≤ t) : 0 ≤ strsBytes t ss ∧ strsBytes t ss ≤ 17825792 := by
  unfold strsBytes
  split
  · omega
  · exact foldBytes_bd ss _ (by omega) (by omega)
theorem flatBytes_bd (t : Int) (k n : Nat) (hk : k ≤ 8) (h : 0 ≤ t) : 0 ≤ flatBytes t k n ∧ flatBytes t k n ≤ 17825792 := by
  unfold flatBytes
  split
  · omega
  · have : (k : Int) * n ≤ 8 * n := Int.mul_le_mul_of_nonneg_right (by omega) (by omega)
    have : 0 ≤ (k : Int) * n := Int.mul_nonneg (by omega) (by omega)
    omega

theorem strBytes_le {t : Int} {s : ByteArray} (h : strBytes t s ≤ 1048576) : strBytes t s = t + s.size := by
  unfold strBytes at h ⊢; split at h <;> rename_i h'
  · omega
  · rw [if_neg h']
def total (ss : List ByteArray) : Nat := (ss.map ByteArray.size).sum
theorem total_cons (s : ByteArray) (ss : List ByteArray) : total (s :: ss) = s.size + total ss := by simp [total]
theorem foldBytes_le (ss : List ByteArray) (t : Int) (h : ss.foldl strBytes t ≤ 1048576) : ss.foldl strBytes t = t + total ss := by
  induction ss generalizing t with
  | nil => simp [total]
  | cons s ss ih =>
    simp only [List.foldl_cons] at h ⊢
    have h1 := ih _ h
    have h2 : strBytes t s ≤ 1048576 := by omega
    have h3 := strBytes_le h2
    rw [h1, h3, total_cons]
    omega
theorem strsBytes_le {ss : List ByteArray} {t : Int} (h : strsBytes t ss ≤ 1048576) : strsBytes t ss = t + 16 * ss.length + total ss := by
  unfold strsBytes at h ⊢; split at h <;> rename_i h'
  · omega
  · rw [if_neg h']; exact foldBytes_le ss _ h
theorem flatBytes_le {t : Int} {k n : Nat} (h : flatBytes t k n ≤ 1048576) : flatBytes t k n = t + k * n := by
  unfold flatBytes at h ⊢; split at h <;> rename_i h'
  · omega
  · rw [if_neg h']
theorem total_ge {ss : List ByteArray} {s : ByteArray} (h : s ∈ ss) : s.size ≤ total ss := by
  induction ss with
  | nil => cases h
  | cons a ss ih =>
    rw [total_cons]
    cases h with
    | head => omega
    | tail _ h => have := ih h; omega
theorem foldBytes_snoc (ss : List ByteArray) (t : Int) (k : Nat) (h : k < ss.length) : (ss.take (k + 1)).foldl strBytes t = strBytes ((ss.take k).foldl strBytes t) ss[k] := by
  rw [List.take_succ_eq_append_getElem h, List.foldl_append]; rfl

/-- What a slice's cells hold. -/
def CellsAt (w : World) (a : Option Addr) (vs : List Value) : Prop :=
  ∀ k (h : k < vs.length), ∃ b off, a = some ⟨b, off, none⟩ ∧ w.cell? ⟨b, off + k, none⟩ = some vs[k]

end Go.Proofs.Qxb6001690a
