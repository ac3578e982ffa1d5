import Derived.Test.Qxb6001690aWalk4
import Derived.Test.Qxb6001690aShelf
namespace Go.Proofs.Qxb6001690a
open Go.RowKit
set_option linter.unusedVariables false
set_option linter.unusedSimpArgs false

/-- Where the first of the name stands; -1 where there is none. -/
def firstIdx (r : Int) (names : List ByteArray) (name : ByteArray) : Int :=
  match names.findIdx? (fun x => sameB r x name) with
  | some i => (i : Int)
  | none => -1

theorem firstIdx_hit {r : Int} {names : List ByteArray} {name : ByteArray} {k : Nat} (hk : k < names.length) (hy : sameB r names[k] name = true)
    (hno : ∀ j (hj : j < names.length), j < k → sameB r names[j] name = false) : firstIdx r names name = k := by
  have : names.findIdx? (fun x => sameB r x name) = some k := by
    rw [List.findIdx?_eq_some_iff_getElem]
    exact ⟨hk, hy, fun j hj => by have := hno j (by omega) hj; simp [this]⟩
  simp [firstIdx, this]
theorem firstIdx_miss {r : Int} {names : List ByteArray} {name : ByteArray} (hno : ∀ j (hj : j < names.length), sameB r names[j] name = false) : firstIdx r names name = -1 := by
  have : names.findIdx? (fun x => sameB r x name) = none := by
    rw [List.findIdx?_eq_none_iff]
    intro x hx
    obtain ⟨j, hj, rfl⟩ := List.getElem_of_mem hx
    exact hno j hj
  simp [firstIdx, this]

/-- The row of fields: six cells a field; its name; not removed. -/
def FieldsIn (arr : Array Value) (n k : Nat) (names : List ByteArray) : Prop :=
  arr.size = n * 6 ∧ ∀ j (h : j < names.length), j < k → arr[j * 6]? = some (.string names[j]) ∧ (∃ x, arr[j * 6 + 1]? = some (.int .i64 x)) ∧ (∃ x, arr[j * 6 + 2]? = some (.int .i64 x)) ∧ arr[j * 6 + 3]? = some (.string ⟨#[]⟩) ∧ arr[j * 6 + 4]? = some (.bool false) ∧ arr[j * 6 + 5]? = some (.bool false)

set_option maxHeartbeats 1000000 in
theorem field_search (p f n : Nat) (u : Bool) (r : Int) (text : ByteArray) (spans : Value) (farr : Array Value) (names : List ByteArray) (name : ByteArray) (w : World)
    (hn : names.length = n) (hm : n ≤ 1048576) (hs : ∀ s ∈ names, s.size ≤ maxLen) (hname : name.size ≤ maxLen)
    (hp : RowAt w p 119 (textCells u r text spans (.slice (some ⟨f, 0, none⟩) n n))) (hf : RowAt w f 155 farr) (hF : FieldsIn farr n n names) :
    Calls Try.prog 83 #[.pointer (some ⟨p, 0, none⟩), .string name] w fun e w' => e = .returned (.int .i64 (firstIdx r names name)) ∧ Below w.heap.size w w' := by
  have q : ∀ (w : World) (a : Option Addr) (n c n' c' : Nat), (binOp .eql 117 (.slice a n c) (.slice none n' c')).run Try.prog w = .ok (.bool a.isNone) w := fun w a n c n' c' => Lib.run_eql_slice_nil w _ _ a n c n' c' Try.underlying117
  have HN : Hid (names.length = n) := hn
  have HS : Hid (∀ s ∈ names, s.size ≤ maxLen) := hs
  have HP : Hid (RowAt w p 119 (textCells u r text spans (.slice (some ⟨f, 0, none⟩) n n))) := hp
  have HFR : Hid (RowAt w f 155 farr) := hf
  have HF : Hid (FieldsIn farr n n names) := hF
  clear hn hs hf hF
  have hp14 : w.cell? ⟨p, 14, none⟩ = some (.slice (some ⟨f, 0, none⟩) n n) := hp.cell 14
  clear hp
  go_enter Try.func83, Try.ntmps83
  go_wp2
  go_loopw [74] (fun i wr => ∃ k : Nat, k ≤ n ∧ i = .int .i64 k ∧ Below w.heap.size w wr ∧ ∀ j (hj : j < names.length), j < k → sameB r names[j] name = false) (fun i _ => n - (intOf i).toNat)
  case atStart => exact ⟨0, Nat.zero_le _, rfl, Below.refl _ _, fun j _ h => absurd h (by omega)⟩
  case round =>
    obtain ⟨k, hk, rfl, hb, hno⟩ := hrel
    have HB : Hid (Below w.heap.size w wr) := hb
    have HO : Hid (∀ j (hj : j < names.length), j < k → sameB r names[j] name = false) := hno
    clear hb hno hp14
    by_cases hlt : k < n
    · have hkl : k < names.length := by rw [HN.out]; exact hlt
      have hsz := HS.out names[k] (List.getElem_mem hkl)
      have HPr := HP.out.below HB.out HP.out.lt
      have HFr := HFR.out.below HB.out HFR.out.lt
      have hp11 : wr.cell? ⟨p, 11, none⟩ = some (.int .u8 r) := HPr.cell 11
      obtain ⟨hc0, ⟨v1, hc1⟩, ⟨v2, hc2⟩, hc3, hc4, hc5⟩ := HF.out.2 k hkl hlt
      rw [← HFr.cell] at hc0 hc1 hc2 hc3 hc4 hc5
      have hp11' : ∀ o, (wr.alloc o).cell? ⟨p, 11, none⟩ = some (.int .u8 r) := fun o => cell_later ((Below.refl _ _).alloc (Nat.le_refl _) o) hp11
      clear HPr HFr
      cases hsame : sameB r names[k] name with
      | true =>
        go_wp2
        go_quiet ((go_at_call 102; exact Calls.quiet_of (same_any _ _ _ _ hsz hname)))
        go_wp2
        go_ret
        refine ⟨ret_int (firstIdx_hit hkl hsame HO.out).symm, ?_⟩
        exact below_drewN (HB.out.alloc HB.out.size _) _
      | false =>
        go_wp2
        go_quiet ((go_at_call 102; exact Calls.quiet_of (same_any _ _ _ _ hsz hname)))
        go_wp2
        go_roundw
        case rel =>
          refine ⟨k + 1, by omega, by go_num, below_drewN (HB.out.alloc HB.out.size _) _, fun j hj hjk => ?_⟩
          by_cases e : j = k
          · subst e; exact hsame
          · exact HO.out j hj (by omega)
        case measure => simp [intOf]; omega
    · go_wp2
      go_ret
      exact ⟨ret_int (firstIdx_miss fun j hj => HO.out j hj (by have := HN.out; omega)).symm, HB.out⟩

end Go.Proofs.Qxb6001690a
