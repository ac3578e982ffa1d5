import Derived.Test.Qxb6001690aRows
import Derived.Test.Qxb6001690aPlain
import Derived.WalkKit
import Derived.WalkSpells
import Derived.WalkLawsBesides
import Derived.Deep.QuietTactic
import Derived.BigQuiet
namespace Go.Proofs.Qxb6001690a
open Go.RowKit
set_option linter.unusedVariables false
set_option linter.unusedSimpArgs false

theorem ret_bool {a b : Bool} (h : a = b) : Ending.returned (.bool a) = .returned (.bool b) := by rw [h]
theorem ret_int {k : IntKind} {a b : Int} (h : a = b) : Ending.returned (.int k a) = .returned (.int k b) := by rw [h]

set_option maxHeartbeats 400000 in
theorem hasByte_any (s : ByteArray) (c : Int) (w : World) (hs : s.size ≤ maxLen) :
    Calls Try.prog 25 #[.string s, .int .u8 c] w fun e w' => e = .returned (.bool (hasB s c)) ∧ w' = w := by
  unfold maxLen at hs
  go_enter Try.func25, Try.ntmps25
  go_wp2
  go_loop [5] (fun i => ∃ k : Nat, k ≤ s.size ∧ i = .int .i64 k ∧ ∀ j (hj : j < s.size), j < k → (s[j].toNat : Int) ≠ c) (fun i => s.size - (intOf i).toNat)
  case atStart => exact ⟨0, Nat.zero_le _, rfl, fun j _ h => absurd h (by omega)⟩
  case round =>
    obtain ⟨k, hk, rfl, hno⟩ := hrel
    have HN : Hid (∀ j (hj : j < s.size), j < k → (s[j].toNat : Int) ≠ c) := hno
    clear hno
    by_cases hlt : k < s.size
    · by_cases hc : (s[k].toNat : Int) = c
      · have hcb : ((s[k].toNat : Int) == c) = true := by simpa using hc
        have HC : Hid ((s[k].toNat : Int) = c) := hc
        clear hc
        go_wp2
        go_ret
        exact ⟨ret_bool (hasB_true hlt HC.out).symm, rfl⟩
      · have hcb : ((s[k].toNat : Int) == c) = false := by simpa using hc
        go_wp2
        go_round
        case rel =>
          refine ⟨k + 1, by omega, by go_num, fun j hj hjk => ?_⟩
          by_cases e : j = k
          · subst e; exact hc
          · exact HN.out j hj (by omega)
        case measure => simp [intOf]; omega
    · go_wp2
      go_ret
      exact ⟨ret_bool (hasB_false fun j hj => HN.out j hj (by omega)).symm, rfl⟩


set_option maxHeartbeats 400000 in
theorem fold_any (r c : Int) (w : World) (h0 : 0 ≤ c) (h1 : c ≤ 255) :
    Calls Try.prog 130 #[.int .u8 r, .int .u8 c] w fun e w' => e = .returned (.int .u8 (foldI r c)) ∧ w' = w := by
  by_cases hr : r = 0
  · subst hr
    by_cases hA : 65 ≤ c
    · by_cases hZ : c ≤ 90
      · go_enter Try.func130, Try.ntmps130
        go_wp2
        go_ret
        refine ⟨ret_int ?_, rfl⟩
        unfold foldI; rw [if_pos (by omega)]; omega
      · go_enter Try.func130, Try.ntmps130
        go_wp2
        go_ret
        exact ⟨ret_int (by unfold foldI; rw [if_neg (by omega)]), rfl⟩
    · go_enter Try.func130, Try.ntmps130
      go_wp2
      go_ret
      exact ⟨ret_int (by unfold foldI; rw [if_neg (by omega)]), rfl⟩
  · have hr' : (r == 0) = false := by simpa using hr
    go_enter Try.func130, Try.ntmps130
    go_wp2
    go_ret
    exact ⟨ret_int (by unfold foldI; rw [if_neg (by omega)]), rfl⟩


set_option maxHeartbeats 400000 in
theorem strBytes_any (t : Int) (s : ByteArray) (w : World) (h0 : 0 ≤ t) (h1 : t ≤ 17825792) (hs : s.size ≤ maxLen) :
    Calls Try.prog 16 #[.int .i64 t, .string s] w fun e w' => e = .returned (.int .i64 (strBytes t s)) ∧ w' = w := by
  unfold maxLen at hs
  by_cases ht : 1048576 < t
  · go_enter Try.func16, Try.ntmps16
    go_wp2
    go_ret
    exact ⟨ret_int (by unfold strBytes; rw [if_pos (.inl ht)]), rfl⟩
  · by_cases hn : 1048576 < (s.size : Int)
    · go_enter Try.func16, Try.ntmps16
      go_wp2
      go_ret
      exact ⟨ret_int (by unfold strBytes; rw [if_pos (.inr hn)]), rfl⟩
    · go_enter Try.func16, Try.ntmps16
      go_wp2
      go_ret
      exact ⟨ret_int (by unfold strBytes; rw [if_neg (by omega)]), rfl⟩

set_option maxHeartbeats 400000 in
theorem strsBytes_any (t : Int) (a : Option Addr) (n c : Nat) (ss : List ByteArray) (w : World) (hn : ss.length = n) (h0 : 0 ≤ t) (h1 : t ≤ 17825792)
    (hm : n ≤ maxLen) (hs : ∀ s ∈ ss, s.size ≤ maxLen) (hc : CellsAt w a (ss.map .string)) :
    Calls Try.prog 17 #[.int .i64 t, .slice a n c] w fun e w' => e = .returned (.int .i64 (strsBytes t ss)) ∧ w' = w := by
  have HN : Hid (ss.length = n) := hn
  have HS : Hid (∀ s ∈ ss, s.size ≤ maxLen) := hs
  have HC : Hid (CellsAt w a (ss.map .string)) := hc
  clear hn hs hc
  unfold maxLen at hm
  by_cases ht : 1048576 < t
  · go_enter Try.func17, Try.ntmps17
    go_wp2
    go_ret
    exact ⟨ret_int (by unfold strsBytes; rw [if_pos (.inl ht)]), rfl⟩
  · by_cases hl : 1048576 < (n : Int)
    · go_enter Try.func17, Try.ntmps17
      go_wp2
      go_ret
      exact ⟨ret_int (by unfold strsBytes; rw [HN.out, if_pos (.inr hl)]), rfl⟩
    · go_enter Try.func17, Try.ntmps17
      go_wp2
      go_loop [0, 5] (fun t' i => ∃ k : Nat, k ≤ n ∧ i = .int .i64 k ∧ t' = .int .i64 ((ss.take k).foldl strBytes (t + 16 * n))) (fun _ i => n - (intOf i).toNat)
      case atStart => exact ⟨0, Nat.zero_le _, rfl, rfl⟩
      case round =>
        obtain ⟨k, hk, rfl, rfl⟩ := hrel
        have hb := foldBytes_bd (ss.take k) (t + 16 * n) (by omega) (by omega)
        by_cases hlt : k < n
        · have hkl : k < ss.length := by rw [HN.out]; exact hlt
          obtain ⟨b, off, rfl, hcell⟩ := HC.out k (by simpa using hkl)
          simp only [List.getElem_map] at hcell
          have hsz := HS.out ss[k] (List.getElem_mem hkl)
          have HE : Hid ((ss.take (k + 1)).foldl strBytes (t + 16 * n) = strBytes ((ss.take k).foldl strBytes (t + 16 * n)) ss[k]) := foldBytes_snoc ss _ k hkl
          go_wp2_with (go_at_call 16; refine (strBytes_any _ _ _ hb.1 hb.2 hsz).mono ?_; rintro e w' ⟨rfl, rfl⟩)
          go_round
          case rel => exact ⟨k + 1, by omega, by go_num, by rw [HE.out]⟩
          case measure => simp [intOf]; omega
        · go_wp2
          go_ret
          refine ⟨ret_int ?_, rfl⟩
          unfold strsBytes
          rw [HN.out, if_neg (by omega), List.take_of_length_le (by have := HN.out; omega)]

end Go.Proofs.Qxb6001690a
