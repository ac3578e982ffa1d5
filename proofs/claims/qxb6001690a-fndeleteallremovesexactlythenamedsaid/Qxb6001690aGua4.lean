import Derived.Test.Qxb6001690aDel2
namespace Go.Proofs.Qxb6001690a
open Go.RowKit
set_option linter.unusedVariables false
set_option linter.unusedSimpArgs false

theorem foldA_any (c : Int) (w : World) (h0 : 0 ≤ c) (h1 : c ≤ 255) :
    Calls Try.prog 97 #[.int .u8 c] w fun e w' => e = .returned (.int .u8 (foldI 0 c)) ∧ w' = w := by
  by_cases hA : 65 ≤ c
  · by_cases hZ : c ≤ 90
    · go_enter Try.func97, Try.ntmps97
      go_wp2
      go_ret
      refine ⟨ret_int ?_, rfl⟩
      unfold foldI; rw [if_pos (by omega)]; omega
    · go_enter Try.func97, Try.ntmps97
      go_wp2
      go_ret
      exact ⟨ret_int (by unfold foldI; rw [if_neg (by omega)]), rfl⟩
  · go_enter Try.func97, Try.ntmps97
    go_wp2
    go_ret
    exact ⟨ret_int (by unfold foldI; rw [if_neg (by omega)]), rfl⟩
theorem foldA_u8 (x : UInt8) (w : World) :
    Calls Try.prog 97 #[.int .u8 (x.toNat : Int)] w fun e w' => e = .returned (.int .u8 (foldI 0 (x.toNat : Int))) ∧ w' = w :=
  foldA_any _ w (by omega) (by have := x.toNat_lt; omega)

set_option maxHeartbeats 400000 in
theorem sameFold_any (a b : ByteArray) (w : World) (ha : a.size ≤ maxLen) (hb : b.size ≤ maxLen) :
    Calls Try.prog 79 #[.string a, .string b] w fun e w' => e = .returned (.bool (sameB 0 a b)) ∧ ∃ n, w' = w.drewN n := by
  unfold maxLen at ha hb
  by_cases hs : a.size = b.size
  · have hsb : ((a.size : Int) == (b.size : Int)) = true := by simp [hs]
    have HS : Hid (a.size = b.size) := hs
    clear hs
    go_enter Try.func79, Try.ntmps79
    go_wp2
    go_loopw [5] (fun i wr => ∃ k : Nat, k ≤ a.size ∧ i = .int .i64 k ∧ (∃ n, wr = w.drewN n) ∧ ∀ j (hj : j < a.size) (hj' : j < b.size), j < k → foldI 0 (a[j].toNat : Int) = foldI 0 (b[j].toNat : Int)) (fun i _ => a.size - (intOf i).toNat)
    case atStart => exact ⟨0, Nat.zero_le _, rfl, ⟨0, rfl⟩, fun j _ _ h => absurd h (by omega)⟩
    case round =>
      obtain ⟨k, hk, rfl, hwr, hno⟩ := hrel
      have HW : Hid (∃ n, wr = w.drewN n) := hwr
      clear hwr
      have HN : Hid (∀ j (hj : j < a.size) (hj' : j < b.size), j < k → foldI 0 (a[j].toNat : Int) = foldI 0 (b[j].toNat : Int)) := hno
      clear hno
      by_cases hlt : k < a.size
      · have hlt' : k < b.size := by have := HS.out; omega
        have h1 : (k : Int) < (a.size : Int) := by omega
        have h2 : (k : Int) < (b.size : Int) := by omega
        by_cases hc : foldI 0 (a[k].toNat : Int) = foldI 0 (b[k].toNat : Int)
        · have hcb : (foldI 0 (a[k].toNat : Int) != foldI 0 (b[k].toNat : Int)) = false := by simpa using hc
          have HC : Hid (foldI 0 (a[k].toNat : Int) = foldI 0 (b[k].toNat : Int)) := hc
          clear hc
          go_wp2
          go_quiet ((go_at_call 97; exact Calls.quiet_of_same (foldA_u8 _ _)))
          go_wp2
          go_roundw
          case rel =>
            refine ⟨k + 1, by omega, by go_num, drewn_more HW.out _, fun j hj hj' hjk => ?_⟩
            by_cases e : j = k
            · subst e; exact HC.out
            · exact HN.out j hj hj' (by omega)
          case measure => simp [intOf]; omega
        · have hcb : (foldI 0 (a[k].toNat : Int) != foldI 0 (b[k].toNat : Int)) = true := by simpa using hc
          have HC : Hid (foldI 0 (a[k].toNat : Int) ≠ foldI 0 (b[k].toNat : Int)) := hc
          clear hc
          go_wp2
          go_quiet ((go_at_call 97; exact Calls.quiet_of_same (foldA_u8 _ _)))
          go_wp2
          go_ret
          exact ⟨ret_bool (sameB_false_at hlt hlt' HC.out).symm, drewn_more HW.out _⟩
      · go_wp2
        go_ret
        exact ⟨ret_bool (sameB_true HS.out fun j hj hj' => HN.out j hj hj' (by omega)).symm, HW.out⟩
  · have hsb : ((a.size : Int) == (b.size : Int)) = false := by simp; omega
    go_enter Try.func79, Try.ntmps79
    go_wp2
    go_ret
    exact ⟨ret_bool (sameB_false_of_size hs).symm, 0, rfl⟩


theorem sameFold_is (a b : ByteArray) (x : Bool) (h : sameB 0 a b = x) (w : World) (ha : a.size ≤ maxLen) (hb : b.size ≤ maxLen) :
    Calls Try.prog 79 #[.string a, .string b] w fun e w' => e = .returned (.bool x) ∧ ∃ n, w' = w.drewN n := by
  subst h; exact sameFold_any a b w ha hb

/-- 'make([]string, 0, n)'. -/
theorem make0s (n : Nat) (h : n ≤ 1048576) (w : World) : (Instr.makeSlice 22 (.int .i64 0) (.int .i64 (n : Int))).run Try.prog w = .ok (.slice (some ⟨w.heap.size, 0, none⟩) 0 n) (w.alloc (.cells (madeCells #[.string ByteArray.empty] n) 9)) := by
  obtain ⟨i, hi, hz, hs, hb⟩ := info_parts Try.info9
  have hr := run_make (P := Try.prog) w 22 9 i (.string ByteArray.empty) Try.underlying22 hi hz .i64 .i64 0 (n : Int) (by omega) (by omega) (by rw [hb]; omega) (by omega)
  rw [hs] at hr
  have e : (Value.string ByteArray.empty).cells = #[.string ByteArray.empty] := rfl
  rw [e] at hr
  simpa using hr

set_option maxHeartbeats 2000000 in
theorem zzBytes78_any (a1 a2 a3 : Option Addr) (n1 n2 n3 c1 c2 c3 : Nat) (ss1 ss2 : List ByteArray) (f : Value) (x y : ByteArray) (w : World) (hn1 : ss1.length = n1) (hn2 : ss2.length = n2)
    (hm1 : n1 ≤ maxLen) (hm2 : n2 ≤ maxLen) (hm3 : n3 ≤ maxLen) (hx : x.size ≤ maxLen) (hy : y.size ≤ maxLen) (hs1 : ∀ s ∈ ss1, s.size ≤ maxLen) (hs2 : ∀ s ∈ ss2, s.size ≤ maxLen)
    (hc1 : CellsAt w a1 (ss1.map .string)) (hc2 : CellsAt w a2 (ss2.map .string)) :
    Calls Try.prog 78 #[.slice a1 n1 c1, .slice a2 n2 c2, f, .slice a3 n3 c3, .string x, .string y] w fun e w' => RetIf (n1 + total ss1 + n2 + total ss2 + n3 + x.size + y.size ≤ 1048576) e ∧ w' = w := by
  have HN1 : Hid (ss1.length = n1) := hn1
  have HS1 : Hid (∀ s ∈ ss1, s.size ≤ maxLen) := hs1
  have HC1 : Hid (CellsAt w a1 (ss1.map .string)) := hc1
  clear hn1 hs1 hc1
  have HN2 : Hid (ss2.length = n2) := hn2
  have HS2 : Hid (∀ s ∈ ss2, s.size ≤ maxLen) := hs2
  have HC2 : Hid (CellsAt w a2 (ss2.map .string)) := hc2
  clear hn2 hs2 hc2
  unfold maxLen at hm1 hm2 hm3 hx hy
  go_enter Try.func78, Try.ntmps78
  by_cases hL1 : 1048576 < (n1 : Int)
  · go_wp2
    go_ret
    exact ⟨RetIf.no rfl, rfl⟩
  go_wp2
  go_loop [13, 14] (fun t i => ∃ (k : Nat) (z : Int), k ≤ n1 ∧ i = .int .i64 k ∧ t = .int .i64 z ∧ 0 ≤ z ∧ z ≤ 1048576 ∧ z = (n1 : Int) + (total (ss1.take k) : Int)) (fun _ i => n1 - (intOf i).toNat)
  case atStart => exact ⟨0, _, Nat.zero_le _, rfl, rfl, by omega, by omega, by simp [total]⟩
  case round =>
    obtain ⟨k1, z1, hk1, rfl, rfl, hz0, hz1, hze⟩ := hrel
    have HZ1 : Hid (z1 = (n1 : Int) + (total (ss1.take k1) : Int)) := hze
    clear hze
    by_cases hlt1 : k1 < n1
    · have hkl : k1 < ss1.length := by rw [HN1.out]; exact hlt1
      obtain ⟨b, off, rfl, hcell⟩ := HC1.out k1 (by simpa using hkl)
      simp only [List.getElem_map] at hcell
      have hsz := HS1.out ss1[k1] (List.getElem_mem hkl)
      unfold maxLen at hsz
      have HT : Hid (total (ss1.take (k1 + 1)) = total (ss1.take k1) + ss1[k1].size) := total_snoc _ _ hkl
      by_cases h1 : 1048576 < (ss1[k1].size : Int)
      · go_wp2
        go_ret
        exact ⟨RetIf.no rfl, rfl⟩
      by_cases h2 : 1048576 < z1 + (ss1[k1].size : Int)
      · go_wp2
        go_ret
        exact ⟨RetIf.no rfl, rfl⟩
      go_wp2
      go_round
      case rel => exact ⟨k1 + 1, _, by omega, by go_num, rfl, by omega, by omega, by have := HZ1.out; have := HT.out; omega⟩
      case measure => simp [intOf]; omega
    · have HK1 : Hid (total (ss1.take k1) = total ss1) := by
        show total (ss1.take k1) = total ss1
        rw [List.take_of_length_le (by have := HN1.out; omega)]
      by_cases hL2 : 1048576 < (n2 : Int)
      · go_wp2
        go_ret
        exact ⟨RetIf.no rfl, rfl⟩
      by_cases hZ2 : 1048576 < z1 + (n2 : Int)
      · go_wp2
        go_ret
        exact ⟨RetIf.no rfl, rfl⟩
      go_wp2
      go_loop [13, 15] (fun t i => ∃ (k : Nat) (z : Int), k ≤ n2 ∧ i = .int .i64 k ∧ t = .int .i64 z ∧ 0 ≤ z ∧ z ≤ 1048576 ∧ z = (z1 + (n2 : Int)) + (total (ss2.take k) : Int)) (fun _ i => n2 - (intOf i).toNat)
      case atStart => exact ⟨0, _, Nat.zero_le _, rfl, rfl, by omega, by omega, by simp [total]⟩
      case round =>
        obtain ⟨k2, z2, hk2, rfl, rfl, hz0, hz1, hze⟩ := hrel
        have HZ2 : Hid (z2 = (z1 + (n2 : Int)) + (total (ss2.take k2) : Int)) := hze
        clear hze
        by_cases hlt2 : k2 < n2
        · have hkl : k2 < ss2.length := by rw [HN2.out]; exact hlt2
          obtain ⟨b, off, rfl, hcell⟩ := HC2.out k2 (by simpa using hkl)
          simp only [List.getElem_map] at hcell
          have hsz := HS2.out ss2[k2] (List.getElem_mem hkl)
          unfold maxLen at hsz
          have HT : Hid (total (ss2.take (k2 + 1)) = total (ss2.take k2) + ss2[k2].size) := total_snoc _ _ hkl
          by_cases h1 : 1048576 < (ss2[k2].size : Int)
          · go_wp2
            go_ret
            exact ⟨RetIf.no rfl, rfl⟩
          by_cases h2 : 1048576 < z2 + (ss2[k2].size : Int)
          · go_wp2
            go_ret
            exact ⟨RetIf.no rfl, rfl⟩
          go_wp2
          go_round
          case rel => exact ⟨k2 + 1, _, by omega, by go_num, rfl, by omega, by omega, by have := HZ2.out; have := HT.out; omega⟩
          case measure => simp [intOf]; omega
        · have HK2 : Hid (total (ss2.take k2) = total ss2) := by
            show total (ss2.take k2) = total ss2
            rw [List.take_of_length_le (by have := HN2.out; omega)]
          by_cases hL3 : 1048576 < (n3 : Int)
          · go_wp2
            go_ret
            exact ⟨RetIf.no rfl, rfl⟩
          by_cases hZ3 : 1048576 < z2 + (n3 : Int)
          · go_wp2
            go_ret
            exact ⟨RetIf.no rfl, rfl⟩
          by_cases hL4 : 1048576 < (x.size : Int)
          · go_wp2
            go_ret
            exact ⟨RetIf.no rfl, rfl⟩
          by_cases hZ4 : 1048576 < (z2 + (n3 : Int)) + (x.size : Int)
          · go_wp2
            go_ret
            exact ⟨RetIf.no rfl, rfl⟩
          by_cases hL5 : 1048576 < (y.size : Int)
          · go_wp2
            go_ret
            exact ⟨RetIf.no rfl, rfl⟩
          by_cases hZ5 : 1048576 < ((z2 + (n3 : Int)) + (x.size : Int)) + (y.size : Int)
          · go_wp2
            go_ret
            exact ⟨RetIf.no rfl, rfl⟩
          go_wp2
          go_ret
          exact ⟨RetIf.yes rfl (by have := HZ1.out; have := HZ2.out; have := HK1.out; have := HK2.out; omega), rfl⟩

end Go.Proofs.Qxb6001690a
