import Derived.Test.Qxb6600360aAny
import Derived.OwnWalk
namespace Go.Proofs.Qxb6600360a
open Go.RowKit
set_option linter.unusedVariables false
set_option linter.unusedSimpArgs false

abbrev bad (b : UInt8) : Bool := List.contains [92, 38] b
/-- the end that readLiteral finds. -/
def litEnd (s : ByteArray) (i : Nat) (e : Nat) : Prop :=
  i < e ∧ e ≤ s.size ∧ (∀ (j : Nat) b, i < j → j < e → s.data.toList[j]? = some b → bad b = false) ∧ (e < s.size → ∃ b, s.data.toList[e]? = some b ∧ bad b = true)

theorem indexAny_cases (l cs : List UInt8) : (Lib.indexAny l cs = -1 ∧ Lib.NoAny l cs l.length) ∨ ∃ (k : Nat) (b : UInt8), Lib.indexAny l cs = (k : Int) ∧ l[k]? = some b ∧ cs.contains b = true ∧ Lib.NoAny l cs k := by
  induction l with
  | nil => exact Or.inl ⟨rfl, fun j b hj => by simp at hj⟩
  | cons a l ih =>
    cases ha : cs.contains a
    · rcases ih with ⟨h1, h2⟩ | ⟨k, b, h1, h2, h3, h4⟩
      · have hn : Lib.NoAny (a :: l) cs (a :: l).length := by
          intro j b hj hb
          cases j with
          | zero => simp at hb; subst hb; exact ha
          | succ j => exact h2 j b (by simpa using hj) (by simpa using hb)
        exact Or.inl ⟨Lib.indexAny_none hn, hn⟩
      · have hn : Lib.NoAny (a :: l) cs (k + 1) := by
          intro j b hj hb
          cases j with
          | zero => simp at hb; subst hb; exact ha
          | succ j => exact h4 j b (by omega) (by simpa using hb)
        exact Or.inr ⟨k + 1, b, Lib.indexAny_hit hn (by simpa using h2) h3, by simpa using h2, h3, hn⟩
    · exact Or.inr ⟨0, a, Lib.indexAny_hit (Lib.NoAny.zero _ _) rfl ha, rfl, ha, Lib.NoAny.zero _ _⟩

theorem extract_get (s : ByteArray) (i j : Nat) : (s.extract i s.size).data.toList[j]? = s.data.toList[i + j]? := by
  rw [ByteArray.data_extract, Array.toList_extract]
  simp only [List.extract]
  rw [List.getElem?_take]
  by_cases h : j < s.size - i
  · rw [if_pos h, List.getElem?_drop]
  · rw [if_neg h]
    rw [List.getElem?_eq_none]
    rw [← Lib.size_eq]; omega

def Rest (s t : ByteArray) (i : Nat) (v : Int) : Prop :=
  (∀ w, (Instr.slice 9 (.string s) (some (.int .i64 ((i : Int) + 1))) none none).run Try.prog w = .ok (.string t) w) ∧
  ∀ w, Calls Try.prog 19 #[.string t, .string ⟨#[92, 38]⟩] w fun e w' => e = .returned (.int .i64 v) ∧ Below w.heap.size w w'

set_option maxHeartbeats 4000000 in
set_option maxRecDepth 1000000 in
theorem readLiteral_none (s t : ByteArray) (i : Nat) (w : World) (hs : s.size ≤ 1048576) (hi : i < s.size) (h : Rest s t i (-1)) :
    Calls Try.prog 17 #[.string s, .int .i64 i] w fun x w' => x = .returned (.tuple #[.int .i64 s.size, .string (s.extract i s.size), .bool true]) ∧ Below w.heap.size w w' := by
  obtain ⟨hsl, K⟩ := h
  replace K := hid K
  have hw1 : IntKind.i64.wrap ((i : Int) + 1) = (i : Int) + 1 := wrap_small _ (by omega) (by omega)
  have hsl2 : ∀ w, (Instr.slice 9 (.string s) (some (.int .i64 i)) (some (.int .i64 s.size)) none).run Try.prog w = .ok (.string (s.extract i s.size)) w := fun w => run_slice_string (w := w) 9 s .i64 .i64 i s.size Try.underlying9 (by omega) (by omega) (by omega)
  generalize s.extract i s.size = u at *
  go_enter Try.func17, Try.ntmps17
  go_wp2_with (go_at_call 19; refine (K.out _).mono ?_; rintro e wz ⟨rfl, hbz⟩; replace hbz := hid hbz)
  go_quiet (fail)
  go_wp2_with fail
  go_ret3
  exact ⟨rfl, below_drewN hbz.out _⟩

set_option maxHeartbeats 4000000 in
set_option maxRecDepth 1000000 in
theorem readLiteral_hit (s t : ByteArray) (i k : Nat) (w : World) (hs : s.size ≤ 1048576) (hi : i + 1 + k < s.size) (h : Rest s t i k) :
    Calls Try.prog 17 #[.string s, .int .i64 i] w fun x w' => x = .returned (.tuple #[.int .i64 ((i : Int) + 1 + k), .string (s.extract i (i + 1 + k)), .bool true]) ∧ Below w.heap.size w w' := by
  obtain ⟨hsl, K⟩ := h
  replace K := hid K
  have hw1 : IntKind.i64.wrap ((i : Int) + 1) = (i : Int) + 1 := wrap_small _ (by omega) (by omega)
  have hw2 : IntKind.i64.wrap ((i : Int) + 1 + k) = (i : Int) + 1 + k := wrap_small _ (by omega) (by omega)
  have hsl2 : ∀ w, (Instr.slice 9 (.string s) (some (.int .i64 i)) (some (.int .i64 ((i : Int) + 1 + k))) none).run Try.prog w = .ok (.string (s.extract i (i + 1 + k))) w := fun w => by
    have := run_slice_string (w := w) (P := Try.prog) 9 s .i64 .i64 i ((i : Int) + 1 + k) Try.underlying9 (by omega) (by omega) (by omega)
    rw [this, show ((i : Int)).toNat = i by omega, show ((i : Int) + 1 + k).toNat = i + 1 + k by omega]
  have hk0 : (0 : Int) ≤ (k : Int) := by omega
  generalize s.extract i (i + 1 + k) = u at *
  go_enter Try.func17, Try.ntmps17
  go_wp2_with (go_at_call 19; refine (K.out _).mono ?_; rintro e wz ⟨rfl, hbz⟩; replace hbz := hid hbz)
  go_quiet (fail)
  go_wp2_with fail
  go_ret3
  exact ⟨rfl, below_drewN hbz.out _⟩

theorem readLiteral_ok (s : ByteArray) (i : Nat) (hs : s.size ≤ 1048576) (hi : i < s.size) :
    ∃ e : Nat, litEnd s i e ∧ ∀ w, Calls Try.prog 17 #[.string s, .int .i64 i] w fun x w' => x = .returned (.tuple #[.int .i64 e, .string (s.extract i e), .bool true]) ∧ Below w.heap.size w w' := by
  have hsl : ∀ w, (Instr.slice 9 (.string s) (some (.int .i64 ((i : Int) + 1))) none none).run Try.prog w = .ok (.string (s.extract (i + 1) s.size)) w := fun w => run_slice_string_l w 9 s Try.underlying9 .i64 ((i : Int) + 1) (by omega) (by omega)
  have K := fun w => indexAny_two (s.extract (i + 1) s.size) ⟨#[92, 38]⟩ w rfl (by simp; omega)
  have hget := extract_get s (i + 1)
  have hlen : (s.extract (i + 1) s.size).data.toList.length = s.size - (i + 1) := by rw [← Lib.size_eq]; simp
  generalize s.extract (i + 1) s.size = t at *
  rcases indexAny_cases t.data.toList [92, 38] with ⟨h1, h2⟩ | ⟨k, b, h1, h2, h3, h4⟩
  · rw [h1] at K
    refine ⟨s.size, ⟨hi, Nat.le_refl _, ?_, fun h => by omega⟩, fun w => readLiteral_none s t i w hs hi ⟨hsl, K⟩⟩
    intro j b hj hj2 hb
    refine h2 (j - (i + 1)) b (by omega) ?_
    rw [hget, show i + 1 + (j - (i + 1)) = j by omega]; exact hb
  · rw [h1] at K
    have hk : k < t.data.toList.length := (List.getElem?_eq_some_iff.1 h2).1
    refine ⟨i + 1 + k, ⟨by omega, by omega, ?_, fun h => ⟨b, by rw [← hget]; exact h2, h3⟩⟩, fun w => ?_⟩
    · intro j b hj hj2 hb
      refine h4 (j - (i + 1)) b (by omega) ?_
      rw [hget, show i + 1 + (j - (i + 1)) = j by omega]; exact hb
    · have := readLiteral_hit s t i k w hs (by omega) ⟨hsl, K⟩
      push_cast
      exact this

set_option maxHeartbeats 4000000 in
set_option maxRecDepth 1000000 in
theorem zzReadLiteral_ok (s u : ByteArray) (i e : Int) (w : World) (K : ∀ w, Calls Try.prog 17 #[.string s, .int .i64 i] w fun x w' => x = .returned (.tuple #[.int .i64 e, .string u, .bool true]) ∧ Below w.heap.size w w') :
    Calls Try.prog 9 #[.string s, .int .i64 i] w fun x w' => x = .returned (.tuple #[.int .i64 e, .string u, .bool true]) ∧ Below w.heap.size w w' := by
  replace K := hid K
  go_enter Try.func9, Try.ntmps9
  go_wp2_with (go_at_call 17; refine (K.out _).mono ?_; rintro e wz ⟨rfl, hbz⟩; replace hbz := hid hbz)
  go_ret3
  exact ⟨rfl, hbz.out⟩

set_option maxHeartbeats 4000000 in
set_option maxRecDepth 1000000 in
theorem guard_ok (s : ByteArray) (i : Int) (w : World) :
    Calls Try.prog 8 #[.string s, .int .i64 i] w fun x w' => x = .returned (.bool (decide (s.size ≤ 1048576))) ∧ w' = w := by
  by_cases h : s.size ≤ 1048576
  · rw [decide_eq_true h]
    have hw : IntKind.i64.wrap (s.size : Int) = (s.size : Int) := wrap_small _ (by omega) (by omega)
    go_enter Try.func8, Try.ntmps8
    go_wp2_with fail
    go_ret
    exact ⟨rfl, rfl⟩
  · rw [decide_eq_false h]
    go_enter Try.func8, Try.ntmps8
    go_wp2_with fail
    go_ret
    exact ⟨rfl, rfl⟩

set_option maxHeartbeats 4000000 in
set_option maxRecDepth 1000000 in
theorem law3_far (s : ByteArray) (i : Int) (w : World) (h : ¬ s.size ≤ 1048576) :
    Calls Try.prog 3 #[.string s, .int .i64 i] w fun x w' => x = .returned (.bool true) ∧ Below w.heap.size w w' := by
  have K := guard_ok s i
  rw [decide_eq_false h] at K
  replace K := hid K
  clear h
  go_enter Try.func3, Try.ntmps3
  go_wp2_with (go_at_call 8; refine keepW (K.out _) ?_; rintro e rfl)
  go_ret
  exact ⟨rfl, Below.refl _ _⟩

set_option maxHeartbeats 4000000 in
set_option maxRecDepth 1000000 in
theorem law3_out (s : ByteArray) (i : Int) (w : World) (h : s.size ≤ 1048576) (hi : i < 0 ∨ (s.size : Int) ≤ i) :
    Calls Try.prog 3 #[.string s, .int .i64 i] w fun x w' => x = .returned (.bool true) ∧ Below w.heap.size w w' := by
  have K := guard_ok s i
  rw [decide_eq_true h] at K
  replace K := hid K
  by_cases h0 : i < 0
  · clear hi
    go_enter Try.func3, Try.ntmps3
    go_wp2_with (go_at_call 8; refine keepW (K.out _) ?_; rintro e rfl)
    go_ret
    exact ⟨rfl, Below.refl _ _⟩
  · have h1 := hi.resolve_left h0
    clear hi
    go_enter Try.func3, Try.ntmps3
    go_wp2_with (go_at_call 8; refine keepW (K.out _) ?_; rintro e rfl)
    go_ret
    exact ⟨rfl, Below.refl _ _⟩

set_option maxHeartbeats 4000000 in
set_option maxRecDepth 1000000 in
theorem law3_in (s : ByteArray) (i : Nat) (w : World) (h : s.size ≤ 1048576) (hi : i < s.size) :
    Calls Try.prog 3 #[.string s, .int .i64 i] w fun x w' => x = .returned (.bool true) ∧ Below w.heap.size w w' := by
  have K := guard_ok s i
  rw [decide_eq_true h] at K
  replace K := hid K
  obtain ⟨e, ⟨l1, l2, l3, l4⟩, hR⟩ := readLiteral_ok s i h hi
  have K9 := fun w => zzReadLiteral_ok s (s.extract i e) i e w hR
  clear hR
  replace K9 := hid K9
  replace l3 := hid l3
  replace l4 := hid l4
  have hsl2 : ∀ w, (Instr.slice 9 (.string s) (some (.int .i64 i)) (some (.int .i64 e)) none).run Try.prog w = .ok (.string (s.extract i e)) w := fun w => run_slice_string (w := w) 9 s .i64 .i64 i e Try.underlying9 (by omega) (by omega) (by omega)
  generalize s.extract i e = u at *
  have hw1 : IntKind.i64.wrap ((i : Int) + 1) = (i : Int) + 1 := wrap_small _ (by omega) (by omega)
  go_enter Try.func3, Try.ntmps3
  go_wp2_with (go_at_call 8; refine keepW (K.out _) ?_; rintro e rfl)
  go_wp2_with (go_at_call 9; refine (K9.out _).mono ?_; rintro e wz ⟨rfl, hbz⟩; replace hbz := hid hbz)
  rename_i h1 h2 h3 _ _
  clear h1 h2 h3
  go_loopg [8] (e - (i + 1)) (fun g u8 wx => ∃ j : Nat, j + g = e ∧ i < j ∧ u8 = .int .i64 j ∧ wx = wz)
  case atStart => exact ⟨i + 1, by omega, by omega, by push_cast; rfl, rfl⟩
  case round =>
    obtain ⟨j, hjg, hij, rfl, rfl⟩ := hrel
    cases gk with
    | zero =>
      obtain rfl : j = e := by omega
      clear l3
      by_cases hlt : j < s.size
      · obtain ⟨b, hb, hbad⟩ := l4.out hlt
        have hx : s[j]'hlt = b := by
          have := Lib.data_getElem? s j hlt
          rw [hb] at this; exact (Option.some.inj this).symm
        have hne : ((j : Int) == (s.size : Int)) = false := by simp; omega
        have hj0 : (0 : Int) ≤ (j : Int) := by omega
        have hj1 : (j : Int) < (s.size : Int) := by omega
        clear hb l4
        simp only [bad, List.contains_cons, List.contains_nil, Bool.or_false, Bool.or_eq_true, beq_iff_eq] at hbad
        rcases hbad with rfl | rfl
        · go_wp2
          go_ret
          exact ⟨rfl, hbz.out⟩
        · go_wp2
          go_ret
          exact ⟨rfl, hbz.out⟩
      · obtain rfl : j = s.size := by omega
        clear l4
        go_wp2
        go_ret
        exact ⟨rfl, hbz.out⟩
    | succ g =>
      have hlt : j < s.size := by omega
      have hje : j < e := by omega
      obtain ⟨b, hx⟩ : ∃ b : UInt8, s[j]'hlt = b := ⟨_, rfl⟩
      have hbad := l3.out j b hij hje (by rw [← hx]; exact Lib.data_getElem? s j hlt)
      simp only [bad, List.contains_cons, List.contains_nil, Bool.or_false, Bool.or_eq_false_iff, beq_eq_false_iff_ne] at hbad
      obtain ⟨b1, b2⟩ := hbad
      have c1 : ((b.toNat : Int) == 92) = false := by
        rw [beq_eq_false_iff_ne]; intro hh; exact b1 (UInt8.toNat_inj.1 (by simp; omega))
      have c2 : ((b.toNat : Int) == 38) = false := by
        rw [beq_eq_false_iff_ne]; intro hh; exact b2 (UInt8.toNat_inj.1 (by simp; omega))
      have hw : IntKind.i64.wrap ((j : Int) + 1) = (j : Int) + 1 := wrap_small _ (by omega) (by omega)
      have hj0 : (0 : Int) ≤ (j : Int) := by omega
      have hj1 : (j : Int) < (s.size : Int) := by omega
      clear b1 b2
      go_wp2
      go_roundg g
      case measure => omega
      case rel => exact ⟨j + 1, by omega, by omega, by push_cast; rfl, rfl⟩

theorem law3 (s : ByteArray) (i : Int) (w : World) :
    Calls Try.prog 3 #[.string s, .int .i64 i] w fun x w' => x = .returned (.bool true) ∧ Below w.heap.size w w' := by
  by_cases h : s.size ≤ 1048576
  · by_cases hi : i < 0 ∨ (s.size : Int) ≤ i
    · exact law3_out s i w h hi
    · obtain ⟨n, rfl⟩ : ∃ n : Nat, i = n := ⟨i.toNat, by omega⟩
      exact law3_in s n w h (by omega)
  · exact law3_far s i w h

end Go.Proofs.Qxb6600360a
