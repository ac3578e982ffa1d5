import Derived.Test.Qxb6001690aWalk1
import Derived.Deep.Light
namespace Go.Proofs.Qxb6001690a
open Go.RowKit
set_option linter.unusedVariables false
set_option linter.unusedSimpArgs false

theorem fold_u8 (r : Int) (x : UInt8) (w : World) :
    Calls Try.prog 130 #[.int .u8 r, .int .u8 (x.toNat : Int)] w fun e w' => e = .returned (.int .u8 (foldI r (x.toNat : Int))) ∧ w' = w :=
  fold_any r _ w (by omega) (by have := x.toNat_lt; omega)

theorem drewn_more {w wr : World} (h : ∃ n, wr = w.drewN n) (m : Nat) : ∃ n, wr.drewN m = w.drewN n := by
  obtain ⟨n, rfl⟩ := h
  exact ⟨n + m, by rw [World.drewN_drewN]⟩

set_option maxHeartbeats 400000 in
theorem sameName_any (r : Int) (a b : ByteArray) (w : World) (ha : a.size ≤ maxLen) (hb : b.size ≤ maxLen) :
    Calls Try.prog 118 #[.int .u8 r, .string a, .string b] w fun e w' => e = .returned (.bool (sameB r a b)) ∧ ∃ n, w' = w.drewN n := by
  unfold maxLen at ha hb
  by_cases hs : a.size = b.size
  · have hsb : ((a.size : Int) == (b.size : Int)) = true := by simp [hs]
    have HS : Hid (a.size = b.size) := hs
    clear hs
    go_enter Try.func118, Try.ntmps118
    go_wp2
    go_loopw [15] (fun i wr => ∃ k : Nat, k ≤ a.size ∧ i = .int .i64 k ∧ (∃ n, wr = w.drewN n) ∧ ∀ j (hj : j < a.size) (hj' : j < b.size), j < k → foldI r (a[j].toNat : Int) = foldI r (b[j].toNat : Int)) (fun i _ => a.size - (intOf i).toNat)
    case atStart => exact ⟨0, Nat.zero_le _, rfl, ⟨0, rfl⟩, fun j _ _ h => absurd h (by omega)⟩
    case round =>
      obtain ⟨k, hk, rfl, hwr, hno⟩ := hrel
      have HW : Hid (∃ n, wr = w.drewN n) := hwr
      clear hwr
      have HN : Hid (∀ j (hj : j < a.size) (hj' : j < b.size), j < k → foldI r (a[j].toNat : Int) = foldI r (b[j].toNat : Int)) := hno
      clear hno
      by_cases hlt : k < a.size
      · have hlt' : k < b.size := by have := HS.out; omega
        have h1 : (k : Int) < (a.size : Int) := by omega
        have h2 : (k : Int) < (b.size : Int) := by omega
        by_cases hc : foldI r (a[k].toNat : Int) = foldI r (b[k].toNat : Int)
        · have hcb : (foldI r (a[k].toNat : Int) != foldI r (b[k].toNat : Int)) = false := by simpa using hc
          have HC : Hid (foldI r (a[k].toNat : Int) = foldI r (b[k].toNat : Int)) := hc
          clear hc
          go_wp2
          go_quiet ((go_at_call 130; exact Calls.quiet_of_same (fold_u8 _ _ _)))
          go_wp2
          go_roundw
          case rel =>
            refine ⟨k + 1, by omega, by go_num, drewn_more HW.out _, fun j hj hj' hjk => ?_⟩
            by_cases e : j = k
            · subst e; exact HC.out
            · exact HN.out j hj hj' (by omega)
          case measure => simp [intOf]; omega
        · have hcb : (foldI r (a[k].toNat : Int) != foldI r (b[k].toNat : Int)) = true := by simpa using hc
          have HC : Hid (foldI r (a[k].toNat : Int) ≠ foldI r (b[k].toNat : Int)) := hc
          clear hc
          go_wp2
          go_quiet ((go_at_call 130; exact Calls.quiet_of_same (fold_u8 _ _ _)))
          go_wp2
          go_ret
          exact ⟨ret_bool (sameB_false_at hlt hlt' HC.out).symm, drewn_more HW.out _⟩
      · go_wp2
        go_ret
        exact ⟨ret_bool (sameB_true HS.out fun j hj hj' => HN.out j hj hj' (by omega)).symm, HW.out⟩
  · have hsb : ((a.size : Int) == (b.size : Int)) = false := by simp; omega
    go_enter Try.func118, Try.ntmps118
    go_wp2
    go_ret
    exact ⟨ret_bool (sameB_false_of_size hs).symm, 0, rfl⟩

set_option maxHeartbeats 400000 in
theorem same_any (r : Int) (a b : ByteArray) (w : World) (ha : a.size ≤ maxLen) (hb : b.size ≤ maxLen) :
    Calls Try.prog 102 #[.int .u8 r, .string a, .string b] w fun e w' => e = .returned (.bool (sameB r a b)) ∧ ∃ n, w' = w.drewN n := by
  go_enter Try.func102, Try.ntmps102
  go_wp2_with (go_at_call 118; refine (sameName_any _ _ _ _ ha hb).mono ?_; rintro e w' ⟨rfl, hw⟩)
  go_ret
  exact ⟨rfl, hw⟩

set_option maxHeartbeats 400000 in
theorem zzSame_any (r : Int) (a b : ByteArray) (w : World) (ha : a.size ≤ maxLen) (hb : b.size ≤ maxLen) :
    Calls Try.prog 34 #[.int .u8 r, .string a, .string b] w fun e w' => e = .returned (.bool (sameB r a b)) ∧ w' = w := by
  unfold maxLen at ha hb
  by_cases hs : a.size = b.size
  · have hsb : ((a.size : Int) == (b.size : Int)) = true := by simp [hs]
    have HS : Hid (a.size = b.size) := hs
    clear hs
    go_enter Try.func34, Try.ntmps34
    go_wp2
    go_loop [7] (fun i => ∃ k : Nat, k ≤ a.size ∧ i = .int .i64 k ∧ ∀ j (hj : j < a.size) (hj' : j < b.size), j < k → foldI r (a[j].toNat : Int) = foldI r (b[j].toNat : Int)) (fun i => a.size - (intOf i).toNat)
    case atStart => exact ⟨0, Nat.zero_le _, rfl, fun j _ _ h => absurd h (by omega)⟩
    case round =>
      obtain ⟨k, hk, rfl, hno⟩ := hrel
      have HN : Hid (∀ j (hj : j < a.size) (hj' : j < b.size), j < k → foldI r (a[j].toNat : Int) = foldI r (b[j].toNat : Int)) := hno
      clear hno
      by_cases hlt : k < a.size
      · have hlt' : k < b.size := by have := HS.out; omega
        have h1 := a[k].toNat_lt
        have h2 := b[k].toNat_lt
        by_cases hr : r = 0
        · subst hr
          go_wp2
          all_goals first
            | (go_ret
               refine ⟨ret_bool (sameB_false_at hlt hlt' ?_).symm, rfl⟩
               go_light
               simp only [bne_iff_ne, ne_eq, bne_eq_false_iff_eq] at *
               unfold foldI; split <;> split <;> omega)
            | (refine ⟨⟨k + 1, by omega, by go_num, fun j hj hj' hjk => ?_⟩, by simp [intOf]; omega⟩
               by_cases e : j = k
               · subst e
                 go_light
                 simp only [bne_iff_ne, ne_eq, bne_eq_false_iff_eq] at *
                 unfold foldI; split <;> split <;> omega
               · exact HN.out j hj hj' (by omega))
        · have hr' : (r == 0) = false := by simpa using hr
          go_wp2
          all_goals first
            | (go_ret
               refine ⟨ret_bool (sameB_false_at hlt hlt' ?_).symm, rfl⟩
               go_light
               simp only [bne_iff_ne, ne_eq, bne_eq_false_iff_eq] at *
               unfold foldI; split <;> split <;> omega)
            | (refine ⟨⟨k + 1, by omega, by go_num, fun j hj hj' hjk => ?_⟩, by simp [intOf]; omega⟩
               by_cases e : j = k
               · subst e
                 go_light
                 simp only [bne_iff_ne, ne_eq, bne_eq_false_iff_eq] at *
                 unfold foldI; split <;> split <;> omega
               · exact HN.out j hj hj' (by omega))
      · go_wp2
        go_ret
        exact ⟨ret_bool (sameB_true HS.out fun j hj hj' => HN.out j hj hj' (by omega)).symm, rfl⟩
  · have hsb : ((a.size : Int) == (b.size : Int)) = false := by simp; omega
    go_enter Try.func34, Try.ntmps34
    go_wp2
    go_ret
    exact ⟨ret_bool (sameB_false_of_size hs).symm, rfl⟩

end Go.Proofs.Qxb6001690a
