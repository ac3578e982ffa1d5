import Derived.Test.Qxb6600888aMem
namespace Go.Proofs.Qxb6600888a
open Go.RowKit
set_option linter.unusedVariables false
set_option linter.unusedSimpArgs false

def tot (xs : List ByteArray) : Nat := (xs.map ByteArray.size).sum
theorem tot_succ (xs : List ByteArray) (k : Nat) (h : k < xs.length) : tot (xs.take (k + 1)) = tot (xs.take k) + (xs[k]).size := by
  unfold tot
  rw [List.take_succ_eq_append_getElem h, List.map_append, List.sum_append]
  simp
/-- Some bool comes back; where it is true, p. -/
def GB (p : Prop) (e : Ending) : Prop := ∃ b, e = .returned (.bool b) ∧ (b = true → p)
theorem GB.no (p : Prop) : GB p (.returned (.bool false)) := ⟨false, rfl, fun h => by cases h⟩
theorem GB.yes {p : Prop} (h : p) : GB p (.returned (.bool true)) := ⟨true, rfl, fun _ => h⟩
theorem tot_ge {xs : List ByteArray} {s : ByteArray} (h : s ∈ xs) : s.size ≤ tot xs := by
  induction xs with
  | nil => cases h
  | cons a xs ih =>
    have : tot (a :: xs) = a.size + tot xs := by simp [tot]
    rw [this]
    cases h with
    | head => omega
    | tail _ h => have := ih h; omega

set_option maxHeartbeats 1000000 in
theorem bytes_w (a a1 a2 : Option Addr) (n c n1 c1 n2 c2 : Nat) (xs : List ByteArray) (w : World) (hn : xs.length = n) (hc : CellsAt w a (xs.map Value.string)) (hbig : ∀ s ∈ xs, s.size ≤ 9223372036854775807) (hn1 : n1 ≤ 9223372036854775807) (hn2 : n2 ≤ 9223372036854775807) :
    Calls Try.prog 5 #[.slice a n c, .slice a1 n1 c1, .slice a2 n2 c2] w fun e w' => GB (n + tot xs + n1 + n2 ≤ 1048576) e ∧ w' = w := by
  have HN : Hid (xs.length = n) := hn
  have HC : Hid (CellsAt w a (xs.map Value.string)) := hc
  have HB : Hid (∀ s ∈ xs, s.size ≤ 9223372036854775807) := hbig
  clear hn hc hbig
  by_cases hbn : n ≤ 1048576
  · have hwn : IntKind.i64.wrap (n : Int) = (n : Int) := wrap_small _ (by omega) (by omega)
    have hbi : ¬ (1048576 : Int) < (n : Int) := by omega
    go_enter Try.func5, Try.ntmps5
    go_wp2
    go_loop [7, 8] (fun v i => ∃ (k m : Nat), k ≤ n ∧ m ≤ 1048576 ∧ i = .int .i64 k ∧ v = .int .i64 m ∧ m = n + tot (xs.take k)) (fun _ i => n - (intOf i).toNat)
    case atStart => exact ⟨0, n, Nat.zero_le _, hbn, rfl, rfl, by simp [tot]⟩
    case round =>
      obtain ⟨k, m, hk, hm, rfl, rfl, hs⟩ := hrel
      replace hs := hid hs
      by_cases hlt : k < n
      · have hkl : k < xs.length := by rw [HN.out]; exact hlt
        obtain ⟨b, off, ha, hcell⟩ := HC.out k (by simpa using hkl)
        subst ha
        simp only [List.getElem_map] at hcell
        have hts := tot_succ xs k hkl
        have hsz : (xs[k]).size ≤ 9223372036854775807 := HB.out _ (List.getElem_mem hkl)
        generalize xs[k] = s at *
        replace hts := hid hts
        have hki : (k : Int) < (n : Int) := by omega
        have hk0 : (0 : Int) ≤ (k : Int) := by omega
        have hw4 : IntKind.i64.wrap ((k : Int) + 1) = (k : Int) + 1 := wrap_small _ (by omega) (by omega)
        by_cases hs1 : (1048576 : Int) < (s.size : Int)
        · go_wp2
          go_ret
          exact ⟨GB.no _, rfl⟩
        · have hw5 : IntKind.i64.wrap ((m : Int) + (s.size : Int)) = ((m + s.size : Nat) : Int) := by rw [wrap_small _ (by omega) (by omega)]; push_cast; rfl
          by_cases hs2 : (1048576 : Int) < ((m + s.size : Nat) : Int)
          · go_wp2
            go_ret
            exact ⟨GB.no _, rfl⟩
          · have hnew : Hid (m + s.size = n + tot (xs.take (k + 1))) := by
              show _ = _; rw [hts.out, hs.out]; omega
            have hle : m + s.size ≤ 1048576 := by omega
            generalize m + s.size = m' at *
            go_wp2
            go_round
            case rel => exact ⟨k + 1, m', by omega, hle, by go_num, rfl, hnew.out⟩
            case measure => simp [intOf]; omega
      · have hall : Hid (m = n + tot xs) := by
          show _ = _
          rw [hs.out, List.take_of_length_le (by rw [HN.out]; omega)]
        by_cases h1 : (1048576 : Int) < (n1 : Int)
        · go_wp2
          go_ret
          exact ⟨GB.no _, rfl⟩
        · have hw5 : IntKind.i64.wrap ((m : Int) + (n1 : Int)) = (m : Int) + (n1 : Int) := wrap_small _ (by omega) (by omega)
          by_cases h2 : (1048576 : Int) < (m : Int) + (n1 : Int)
          · go_wp2
            go_ret
            exact ⟨GB.no _, rfl⟩
          · by_cases h3 : (1048576 : Int) < (n2 : Int)
            · go_wp2
              go_ret
              exact ⟨GB.no _, rfl⟩
            · have hw6 : IntKind.i64.wrap ((m : Int) + (n1 : Int) + (n2 : Int)) = (m : Int) + (n1 : Int) + (n2 : Int) := wrap_small _ (by omega) (by omega)
              by_cases h4 : (1048576 : Int) < (m : Int) + (n1 : Int) + (n2 : Int)
              · go_wp2
                go_ret
                exact ⟨GB.no _, rfl⟩
              · have hfin : Hid (n + tot xs + n1 + n2 ≤ 1048576) := by
                  have := hall.out
                  show _ ≤ _; omega
                go_wp2
                go_ret
                exact ⟨GB.yes hfin.out, rfl⟩
  · have hbi : (1048576 : Int) < (n : Int) := by omega
    go_enter Try.func5, Try.ntmps5
    go_wp2
    go_ret
    exact ⟨GB.no _, rfl⟩

/-- fitsBytes returns some bool, and turns nothing. -/
theorem fits_w (a : Option Addr) (n c m0 : Nat) (xs : List ByteArray) (w : World) (hn : xs.length = n) (hnn : n ≤ 1048576) (hm0 : m0 ≤ 1099511627776) (hc : CellsAt w a (xs.map Value.string)) (hbig : ∀ s ∈ xs, s.size ≤ 1048576) :
    Calls Try.prog 6 #[.slice a n c, .int .i64 m0, .int .i64 0] w fun e w' => GB True e ∧ w' = w := by
  have HN : Hid (xs.length = n) := hn
  have HC : Hid (CellsAt w a (xs.map Value.string)) := hc
  have HB : Hid (∀ s ∈ xs, s.size ≤ 1048576) := hbig
  clear hn hc hbig
  by_cases h0 : (1048576 : Int) < (m0 : Int)
  · go_enter Try.func6, Try.ntmps6
    go_wp2
    go_ret
    exact ⟨GB.no _, rfl⟩
  · go_enter Try.func6, Try.ntmps6
    go_wp2
    go_loop [7, 8, 14] (fun v _ i => ∃ (k m : Nat), k ≤ n ∧ m ≤ 1048576 ∧ i = .int .i64 k ∧ v = .int .i64 m) (fun _ _ i => n - (intOf i).toNat)
    case atStart => exact ⟨0, m0, Nat.zero_le _, by omega, rfl, rfl⟩
    case round =>
      obtain ⟨k, m, hk, hm, rfl, rfl⟩ := hrel
      by_cases hlt : k < n
      · have hkl : k < xs.length := by rw [HN.out]; exact hlt
        obtain ⟨b, off, ha, hcell⟩ := HC.out k (by simpa using hkl)
        subst ha
        simp only [List.getElem_map] at hcell
        have hsz : (xs[k]).size ≤ 1048576 := HB.out _ (List.getElem_mem hkl)
        generalize xs[k] = s at *
        have hki : (k : Int) < (n : Int) := by omega
        have hk0 : (0 : Int) ≤ (k : Int) := by omega
        have hw4 : IntKind.i64.wrap ((k : Int) + 1) = (k : Int) + 1 := wrap_small _ (by omega) (by omega)
        have hw6 : IntKind.i64.wrap (s.size : Int) = (s.size : Int) := wrap_small _ (by omega) (by omega)
        have hw5 : IntKind.i64.wrap ((m : Int) + (s.size : Int)) = ((m + s.size : Nat) : Int) := by rw [wrap_small _ (by omega) (by omega)]; push_cast; rfl
        by_cases hs2 : (1048576 : Int) < ((m + s.size : Nat) : Int)
        · go_wp2
          go_ret
          exact ⟨GB.no _, rfl⟩
        · have hle : m + s.size ≤ 1048576 := by omega
          generalize m + s.size = m' at *
          go_wp2
          go_round
          case rel => exact ⟨k + 1, m', by omega, hle, by go_num, rfl⟩
          case measure => simp [intOf]; omega
      · go_wp2
        go_ret
        exact ⟨GB.yes trivial, rfl⟩

/-- namesInOrder: true: the names are dotted, and each sorts before the next. -/
theorem order_adj {N : List Str} (h : ∀ k, k + 1 < N.length → before (nm N k) (nm N (k + 1)) = true) : ∀ i j, i < j → j < N.length → before (nm N i) (nm N j) = true := by
  intro i j hij
  induction hij with
  | refl => exact fun hj => h i hj
  | step hm ih => exact fun hj => before_trans (ih (by omega)) (h _ hj)

set_option maxHeartbeats 1000000 in
theorem inOrder_w (a : Option Addr) (n c : Nat) (xs : List ByteArray) (w : World) (hn : xs.length = n) (hnn : n ≤ 1048576) (hc : CellsAt w a (xs.map Value.string)) (hbig : ∀ s ∈ xs, s.size ≤ 1048576) :
    Calls Try.prog 7 #[.slice a n c] w fun e w' => GB (Names (xs.map lst)) e ∧ ∃ m, w' = w.drewN m := by
  have HN : Hid (xs.length = n) := hn
  have HC : Hid (CellsAt w a (xs.map Value.string)) := hc
  have HB : Hid (∀ s ∈ xs, s.size ≤ 1048576) := hbig
  clear hn hc hbig
  have hnm : ∀ k (hk : k < xs.length), nm (xs.map lst) k = lst xs[k] := by
    intro k hk; unfold nm; rw [List.getD_eq_getElem?_getD, List.getElem?_map, List.getElem?_eq_getElem hk]; rfl
  replace hnm := hid hnm
  go_enter Try.func7, Try.ntmps7
  go_wp2
  go_loopw [3, 6] (fun _ i wr => ∃ k : Nat, k ≤ n ∧ i = .int .i64 k ∧ (∃ m, wr = w.drewN m) ∧ (∀ j, j < k → dotted (nm (xs.map lst) j) = true) ∧ ∀ j, j + 1 < k → before (nm (xs.map lst) j) (nm (xs.map lst) (j + 1)) = true) (fun _ i _ => n - (intOf i).toNat)
  case atStart => exact ⟨0, Nat.zero_le _, rfl, ⟨0, rfl⟩, fun j h => absurd h (by omega), fun j h => absurd h (by omega)⟩
  case round =>
    obtain ⟨k, hk, rfl, hwr, hd, ho⟩ := hrel
    have HW : Hid (∃ m, wr = w.drewN m) := hwr
    have HD : Hid (∀ j, j < k → dotted (nm (xs.map lst) j) = true) := hd
    have HO : Hid (∀ j, j + 1 < k → before (nm (xs.map lst) j) (nm (xs.map lst) (j + 1)) = true) := ho
    clear hwr hd ho
    by_cases hlt : k < n
    · have hkl : k < xs.length := by rw [HN.out]; exact hlt
      obtain ⟨b, off, ha, hcell⟩ := HC.out k (by simpa using hkl)
      subst ha
      simp only [List.getElem_map] at hcell
      have hcell' : wr.cell? ⟨b, off + k, none⟩ = some (.string xs[k]) := by
        obtain ⟨m, rfl⟩ := HW.out; exact hcell
      have hsz : (xs[k]).size ≤ 1048576 := HB.out _ (List.getElem_mem hkl)
      have hnk := hnm.out k hkl
      have hki : (k : Int) < (n : Int) := by omega
      have hk0 : (0 : Int) ≤ (k : Int) := by omega
      have hw4 : IntKind.i64.wrap ((k : Int) + 1) = (k : Int) + 1 := wrap_small _ (by omega) (by omega)
      have K14 := fun w => isDotted_w xs[k] w hsz
      cases hdk : dotted (lst xs[k]) with
      | false =>
        rw [hdk] at K14
        replace K14 := hid K14
        generalize xs[k] = s at *
        clear hdk hnk hcell
        go_wp2_with (go_at_call 14; refine keepW (K14.out _) ?_; rintro e rfl)
        go_ret
        exact ⟨GB.no _, HW.out⟩
      | true =>
        rw [hdk] at K14
        replace K14 := hid K14
        have HD2 : Hid (∀ j, j < k + 1 → dotted (nm (xs.map lst) j) = true) := by
          intro j hj
          by_cases e : j = k
          · subst e; rw [hnk]; exact hdk
          · exact HD.out j (by omega)
        clear hdk hcell
        by_cases hkz : k = 0
        · have hnp : decide ((0 : Int) < (k : Int)) = false := decide_eq_false (by omega)
          have hnp2 : decide (0 < k) = false := decide_eq_false (by omega)
          have HK : Hid (k = 0) := hkz
          clear hkz
          generalize xs[k] = s at *
          clear hnk
          go_wp2_with (go_at_call 14; refine keepW (K14.out _) ?_; rintro e rfl)
          go_quiet (fail)
          go_wp2_with fail
          go_roundw
          case rel => exact ⟨k + 1, by omega, by go_num, drewn_more HW.out _, HD2.out, fun j hj => absurd hj (by have := HK.out; omega)⟩
          case measure => simp [intOf]; omega
        · obtain ⟨q, hq⟩ : ∃ q, k = q + 1 := ⟨k - 1, by omega⟩
          have HQ : Hid (k = q + 1) := hq
          have hql : q < xs.length := by omega
          obtain ⟨b2, off2, ha2, hcell2⟩ := HC.out q (by simpa using hql)
          obtain ⟨rfl, rfl⟩ : b = b2 ∧ off = off2 := by simpa using ha2
          simp only [List.getElem_map] at hcell2
          have hcell2' : wr.cell? ⟨b, off + q, none⟩ = some (.string xs[q]) := by
            obtain ⟨m, rfl⟩ := HW.out; exact hcell2
          have hsz2 : (xs[q]).size ≤ 1048576 := HB.out _ (List.getElem_mem hql)
          have hnq := hnm.out q hql
          have hw5 : IntKind.i64.wrap ((k : Int) - 1) = (q : Int) := by rw [wrap_small _ (by omega) (by omega)]; omega
          have hqi : (q : Int) < (n : Int) := by omega
          have hq0 : (0 : Int) ≤ (q : Int) := by omega
          have hpos : (0 : Int) < (k : Int) := by omega
          have hpos2 : decide (0 < k) = true := decide_eq_true (by omega)
          have K16 := fun w => before_w xs[q] xs[k] w hsz2 hsz
          cases hbf : before (lst xs[q]) (lst xs[k]) with
          | false =>
            rw [hbf] at K16
            replace K16 := hid K16
            generalize xs[q] = s1 at *
            generalize xs[k] = s2 at *
            clear hbf hnk hnq hcell2 ha2 hq hkz
            go_wp2_with (go_at_call 14; refine keepW (K14.out _) ?_; rintro e rfl)
            go_quiet ((go_at_call 16; exact Calls.quiet_of_same (K16.out _)))
            go_wp2_with fail
            go_ret
            exact ⟨GB.no _, drewn_more HW.out _⟩
          | true =>
            rw [hbf] at K16
            replace K16 := hid K16
            have HO2 : Hid (∀ j, j + 1 < k + 1 → before (nm (xs.map lst) j) (nm (xs.map lst) (j + 1)) = true) := by
              intro j hj
              by_cases e : j = q
              · subst e; rw [← hq, hnk, hnq]; exact hbf
              · exact HO.out j (by omega)
            generalize xs[q] = s1 at *
            generalize xs[k] = s2 at *
            clear hbf hnk hnq hcell2 ha2 hq hkz
            go_wp2_with (go_at_call 14; refine keepW (K14.out _) ?_; rintro e rfl)
            go_quiet ((go_at_call 16; exact Calls.quiet_of_same (K16.out _)))
            go_wp2_with fail
            go_roundw
            case rel => exact ⟨k + 1, by omega, by go_num, drewn_more HW.out _, HD2.out, HO2.out⟩
            case measure => simp [intOf]; omega
    · have hfin : Hid (Names (xs.map lst)) := by
        have hl : (xs.map lst).length = n := by rw [List.length_map]; exact HN.out
        refine ⟨fun j hj => HD.out j (by omega), order_adj fun j hj => HO.out j (by omega)⟩
      go_wp2
      go_ret
      exact ⟨GB.yes hfin.out, HW.out⟩

end Go.Proofs.Qxb6600888a
