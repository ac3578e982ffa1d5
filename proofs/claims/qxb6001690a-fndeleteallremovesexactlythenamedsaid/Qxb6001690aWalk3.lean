import Derived.Test.Qxb6001690aMem
namespace Go.Proofs.Qxb6001690a
open Go.RowKit
set_option linter.unusedVariables false
set_option linter.unusedSimpArgs false

/-- It returns some bool or other. -/
def RetBool (e : Ending) : Prop := ∃ b, e = .returned (.bool b)
theorem RetBool.mk {e : Ending} {b : Bool} (h : e = .returned (.bool b)) : RetBool e := ⟨b, h⟩

set_option maxHeartbeats 400000 in
theorem boolsBytes_any (t : Int) (a : Option Addr) (n c : Nat) (w : World) (h0 : 0 ≤ t) (h1 : t ≤ 17825792) (hm : n ≤ maxLen) :
    Calls Try.prog 31 #[.int .i64 t, .slice a n c] w fun e w' => e = .returned (.int .i64 (flatBytes t 1 n)) ∧ w' = w := by
  unfold maxLen at hm
  by_cases ht : 1048576 < t
  · go_enter Try.func31, Try.ntmps31
    go_wp2
    go_ret
    exact ⟨ret_int (by unfold flatBytes; rw [if_pos (.inl ht)]), rfl⟩
  · by_cases hn : 1048576 < (n : Int)
    · go_enter Try.func31, Try.ntmps31
      go_wp2
      go_ret
      exact ⟨ret_int (by unfold flatBytes; rw [if_pos (.inr hn)]), rfl⟩
    · go_enter Try.func31, Try.ntmps31
      go_wp2
      go_ret
      exact ⟨ret_int (by unfold flatBytes; rw [if_neg (by omega)]; simp), rfl⟩

set_option maxHeartbeats 2000000 in
theorem zzBytes30_any (a1 a2 a3 : Option Addr) (n1 n2 n3 c1 c2 c3 : Nat) (ss1 ss2 : List ByteArray) (u r : Value) (s : ByteArray) (w : World) (hn1 : ss1.length = n1) (hn2 : ss2.length = n2)
    (hm1 : n1 ≤ maxLen) (hm2 : n2 ≤ maxLen) (hm3 : n3 ≤ maxLen) (hs : s.size ≤ maxLen) (hs1 : ∀ s ∈ ss1, s.size ≤ maxLen) (hs2 : ∀ s ∈ ss2, s.size ≤ maxLen)
    (hc1 : CellsAt w a1 (ss1.map .string)) (hc2 : CellsAt w a2 (ss2.map .string)) :
    Calls Try.prog 30 #[.slice a1 n1 c1, .slice a2 n2 c2, .slice a3 n3 c3, u, r, .string s] w fun e w' => RetBool e ∧ w' = w := by
  have HN1 : Hid (ss1.length = n1) := hn1
  have HS1 : Hid (∀ s ∈ ss1, s.size ≤ maxLen) := hs1
  have HC1 : Hid (CellsAt w a1 (ss1.map .string)) := hc1
  clear hn1 hs1 hc1
  have HN2 : Hid (ss2.length = n2) := hn2
  have HS2 : Hid (∀ s ∈ ss2, s.size ≤ maxLen) := hs2
  have HC2 : Hid (CellsAt w a2 (ss2.map .string)) := hc2
  clear hn2 hs2 hc2
  unfold maxLen at hm1 hm2 hm3 hs
  go_enter Try.func30, Try.ntmps30
  by_cases hL1 : 1048576 < (n1 : Int)
  · go_wp2
    go_ret
    exact ⟨RetBool.mk rfl, rfl⟩
  go_wp2
  go_loop [13, 14] (fun t i => ∃ (k : Nat) (z : Int), k ≤ n1 ∧ i = .int .i64 k ∧ t = .int .i64 z ∧ 0 ≤ z ∧ z ≤ 1048576) (fun _ i => n1 - (intOf i).toNat)
  case atStart => exact ⟨0, _, Nat.zero_le _, rfl, rfl, by omega, by omega⟩
  case round =>
    obtain ⟨k1, z1, hk1, rfl, rfl, hz0, hz1⟩ := hrel
    by_cases hlt1 : k1 < n1
    · have hkl : k1 < ss1.length := by rw [HN1.out]; exact hlt1
      obtain ⟨b, off, rfl, hcell⟩ := HC1.out k1 (by simpa using hkl)
      simp only [List.getElem_map] at hcell
      have hsz := HS1.out ss1[k1] (List.getElem_mem hkl)
      unfold maxLen at hsz
      by_cases h1 : 1048576 < (ss1[k1].size : Int)
      · go_wp2
        go_ret
        exact ⟨RetBool.mk rfl, rfl⟩
      by_cases h2 : 1048576 < z1 + (ss1[k1].size : Int)
      · go_wp2
        go_ret
        exact ⟨RetBool.mk rfl, rfl⟩
      go_wp2
      go_round
      case rel => exact ⟨k1 + 1, _, by omega, by go_num, rfl, by omega, by omega⟩
      case measure => simp [intOf]; omega
    · by_cases hL2 : 1048576 < (n2 : Int)
      · go_wp2
        go_ret
        exact ⟨RetBool.mk rfl, rfl⟩
      by_cases hZ2 : 1048576 < z1 + (n2 : Int)
      · go_wp2
        go_ret
        exact ⟨RetBool.mk rfl, rfl⟩
      go_wp2
      go_loop [13, 15] (fun t i => ∃ (k : Nat) (z : Int), k ≤ n2 ∧ i = .int .i64 k ∧ t = .int .i64 z ∧ 0 ≤ z ∧ z ≤ 1048576) (fun _ i => n2 - (intOf i).toNat)
      case atStart => exact ⟨0, _, Nat.zero_le _, rfl, rfl, by omega, by omega⟩
      case round =>
        obtain ⟨k2, z2, hk2, rfl, rfl, hz0, hz1⟩ := hrel
        by_cases hlt2 : k2 < n2
        · have hkl : k2 < ss2.length := by rw [HN2.out]; exact hlt2
          obtain ⟨b, off, rfl, hcell⟩ := HC2.out k2 (by simpa using hkl)
          simp only [List.getElem_map] at hcell
          have hsz := HS2.out ss2[k2] (List.getElem_mem hkl)
          unfold maxLen at hsz
          by_cases h1 : 1048576 < (ss2[k2].size : Int)
          · go_wp2
            go_ret
            exact ⟨RetBool.mk rfl, rfl⟩
          by_cases h2 : 1048576 < z2 + (ss2[k2].size : Int)
          · go_wp2
            go_ret
            exact ⟨RetBool.mk rfl, rfl⟩
          go_wp2
          go_round
          case rel => exact ⟨k2 + 1, _, by omega, by go_num, rfl, by omega, by omega⟩
          case measure => simp [intOf]; omega
        · by_cases hL3 : 1048576 < (n3 : Int)
          · go_wp2
            go_ret
            exact ⟨RetBool.mk rfl, rfl⟩
          by_cases hZ3 : 1048576 < z2 + (n3 : Int)
          · go_wp2
            go_ret
            exact ⟨RetBool.mk rfl, rfl⟩
          by_cases hL4 : 1048576 < (s.size : Int)
          · go_wp2
            go_ret
            exact ⟨RetBool.mk rfl, rfl⟩
          by_cases hZ4 : 1048576 < (z2 + (n3 : Int)) + (s.size : Int)
          · go_wp2
            go_ret
            exact ⟨RetBool.mk rfl, rfl⟩
          go_wp2
          go_ret
          exact ⟨RetBool.mk rfl, rfl⟩

end Go.Proofs.Qxb6001690a
