import Derived.Test.Qxb6001690aStz3
namespace Go.Proofs.Qxb6001690a
open Go.RowKit
set_option linter.unusedVariables false
set_option linter.unusedSimpArgs false

/-- It returns a bool; and where it is true, this holds. -/
def RetIf (q : Prop) (e : Ending) : Prop := ∃ b, e = .returned (.bool b) ∧ (b = true → q)
theorem RetIf.no {q : Prop} {e : Ending} (h : e = .returned (.bool false)) : RetIf q e := ⟨false, h, fun h => by cases h⟩
theorem RetIf.yes {q : Prop} {e : Ending} (h : e = .returned (.bool true)) (hq : q) : RetIf q e := ⟨true, h, fun _ => hq⟩

set_option maxHeartbeats 2000000 in
theorem zzBytes74_any (a1 a2 : Option Addr) (n1 n2 c1 c2 : Nat) (ss1 : List ByteArray) (f o : Value) (w : World) (hn1 : ss1.length = n1)
    (hm1 : n1 ≤ maxLen) (hm2 : n2 ≤ maxLen) (hs1 : ∀ s ∈ ss1, s.size ≤ maxLen) (hc1 : CellsAt w a1 (ss1.map .string)) :
    Calls Try.prog 74 #[.slice a1 n1 c1, f, .slice a2 n2 c2, o] w fun e w' => RetIf (n1 + total ss1 + n2 ≤ 1048576) e ∧ w' = w := by
  have HN1 : Hid (ss1.length = n1) := hn1
  have HS1 : Hid (∀ s ∈ ss1, s.size ≤ maxLen) := hs1
  have HC1 : Hid (CellsAt w a1 (ss1.map .string)) := hc1
  clear hn1 hs1 hc1
  unfold maxLen at hm1 hm2
  go_enter Try.func74, Try.ntmps74
  by_cases hL1 : 1048576 < (n1 : Int)
  · go_wp2
    go_ret
    exact ⟨RetIf.no rfl, rfl⟩
  go_wp2
  go_loop [9, 10] (fun t i => ∃ (k : Nat) (z : Int), k ≤ n1 ∧ i = .int .i64 k ∧ t = .int .i64 z ∧ 0 ≤ z ∧ z ≤ 1048576 ∧ z = (n1 : Int) + (total (ss1.take k) : Int)) (fun _ i => n1 - (intOf i).toNat)
  case atStart => exact ⟨0, _, Nat.zero_le _, rfl, rfl, by omega, by omega, by simp [total]⟩
  case round =>
    obtain ⟨k1, z1, hk1, rfl, rfl, hz0, hz1, hze⟩ := hrel
    have HZ1 : Hid (z1 = (n1 : Int) + (total (ss1.take k1) : Int)) := hze
    clear hze
    by_cases hlt1 : k1 < n1
    · have hkl : k1 < ss1.length := by rw [HN1.out]; exact hlt1
      obtain ⟨b, off, rfl, hcell⟩ := HC1.out k1 (by simpa using hkl)
      simp only [List.getElem_map] at hcell
      have hsz := HS1.out ss1[k1] (List.getElem_mem hkl)
      unfold maxLen at hsz
      have HT : Hid (total (ss1.take (k1 + 1)) = total (ss1.take k1) + ss1[k1].size) := total_snoc _ _ hkl
      by_cases h1 : 1048576 < (ss1[k1].size : Int)
      · go_wp2
        go_ret
        exact ⟨RetIf.no rfl, rfl⟩
      by_cases h2 : 1048576 < z1 + (ss1[k1].size : Int)
      · go_wp2
        go_ret
        exact ⟨RetIf.no rfl, rfl⟩
      go_wp2
      go_round
      case rel => exact ⟨k1 + 1, _, by omega, by go_num, rfl, by omega, by omega, by have := HZ1.out; have := HT.out; omega⟩
      case measure => simp [intOf]; omega
    · have HK1 : Hid (total (ss1.take k1) = total ss1) := by
        show total (ss1.take k1) = total ss1
        rw [List.take_of_length_le (by have := HN1.out; omega)]
      by_cases hL2 : 1048576 < (n2 : Int)
      · go_wp2
        go_ret
        exact ⟨RetIf.no rfl, rfl⟩
      by_cases hZ2 : 1048576 < z1 + (n2 : Int)
      · go_wp2
        go_ret
        exact ⟨RetIf.no rfl, rfl⟩
      go_wp2
      go_ret
      exact ⟨RetIf.yes rfl (by have := HZ1.out; have := HK1.out; omega), rfl⟩

end Go.Proofs.Qxb6001690a
