import Derived.Test.Qxb6001690aDel2
namespace Go.Proofs.Qxb6001690a
open Go.RowKit
set_option linter.unusedVariables false
set_option linter.unusedSimpArgs false

theorem zzSame_lit (r : Int) (a b : ByteArray) (x : Bool) (h : sameB r a b = x) (w : World) (ha : a.size ≤ maxLen) (hb : b.size ≤ maxLen) :
    Calls Try.prog 34 #[.int .u8 r, .string a, .string b] w fun e w' => e = .returned (.bool x) ∧ w' = w := by
  subst h; exact zzSame_any r a b w ha hb

/-- A kept entry stands where it was counted. -/
theorem keep_at {r : Int} {name : ByteArray} {ms : List Ent} {j : Nat} (hj : j < ms.length) (h : sameB r ms[j].name name = false) :
    ∃ hk : (keepOf r name (ms.take j)).length < (keepOf r name ms).length, (keepOf r name ms)[(keepOf r name (ms.take j)).length] = ms[j] := by
  have e : keepOf r name ms = keepOf r name (ms.take j) ++ (ms[j] :: keepOf r name (ms.drop (j + 1))) := by
    have e1 := keepOf_no hj h
    have : keepOf r name ms = keepOf r name (ms.take (j + 1)) ++ keepOf r name (ms.drop (j + 1)) := by
      unfold keepOf
      rw [← List.filter_append, List.take_append_drop]
    rw [this, e1]; simp
  generalize keepOf r name (ms.take j) = d at *
  rw [e]
  exact ⟨by simp, by simp⟩

set_option maxRecDepth 100000 in
set_option maxHeartbeats 4000000 in
theorem keptLines_any (p1 : Option Addr) (g n m c1 cg cb : Nat) (pb : Option Addr) (r : Int) (name : ByteArray) (ms : List Ent) (ss1 : List ByteArray) (w : World)
    (hml : ms.length = n) (hks : (keepOf r name ms).length = m) (hm : n ≤ 1048576) (hnm : ∀ j (hj : j < ms.length) (h1 : j < ss1.length), ms[j].name = ss1[j]) (hn1 : ss1.length = n)
    (hs1 : ∀ s ∈ ss1, s.size ≤ maxLen) (hname : name.size ≤ maxLen)
    (hc1 : CellsAt w p1 (ss1.map .string)) (hg : CellsAt w (some ⟨g, 0, none⟩) ((keepOf r name ms).map fun e => .int .i64 e.line)) (hb : CellsAt w pb (ms.map fun e => .int .i64 e.line)) :
    Calls Try.prog 65 #[.slice (some ⟨g, 0, none⟩) m cg, .slice pb n cb, .int .u8 r, .slice p1 n c1, .string name] w fun e w' => e = .returned (.bool true) ∧ Below w.heap.size w w' := by
  replace hml := hid hml
  replace hks := hid hks
  replace hnm := hid hnm
  replace hn1 := hid hn1
  replace hs1 := hid hs1
  replace hc1 := hid hc1
  replace hg := hid hg
  replace hb := hid hb
  have hmn : m ≤ n := by rw [← hks.out, ← hml.out]; exact List.length_filter_le _ _
  go_enter Try.func65, Try.ntmps65
  go_wp2
  go_loopw [11, 12] (fun tk tj wr => ∃ j k : Nat, j ≤ n ∧ tj = .int .i64 j ∧ tk = .int .i64 k ∧ k ≤ m ∧ k = (keepOf r name (ms.take j)).length ∧ Below w.heap.size w wr) (fun _ tj _ => n - (intOf tj).toNat)
  case atStart => exact ⟨0, 0, Nat.zero_le _, rfl, rfl, Nat.zero_le _, by simp [keepOf], Below.refl _ _⟩
  case round =>
    obtain ⟨j, k, hj, rfl, rfl, hkm, hk, hbx⟩ := hrel
    by_cases hlt : j < n
    · have hjm : j < ms.length := by rw [hml.out]; exact hlt
      have hj1 : j < ss1.length := by rw [hn1.out]; exact hlt
      have hsz := hs1.out _ (List.getElem_mem hj1)
      obtain ⟨b1, o1, rfl, hx1⟩ := hc1.out j (by simpa using hj1)
      simp only [List.getElem_map] at hx1
      replace hx1 := cell_later hbx hx1
      cases hsm : sameB r ss1[j] name with
      | true =>
        have hys := hid (keepOf_yes (r := r) (name := name) hjm (by rw [hnm.out j hjm hj1]; exact hsm))
        replace hsm := hid hsm
        replace hk := hid hk
        replace hbx := hid hbx
        go_wp2_with (go_at_call 34; refine keepW (zzSame_lit _ _ _ true hsm.out _ hsz hname) ?_; rintro e rfl)
        go_roundw
        case rel => exact ⟨j + 1, k, by omega, by go_num, rfl, hkm, by rw [hys.out]; exact hk.out, hbx.out⟩
        case measure => simp [intOf]; omega
      | false =>
        have hno := hid (keepOf_no (r := r) (name := name) hjm (by rw [hnm.out j hjm hj1]; exact hsm))
        obtain ⟨hkl, hke⟩ := keep_at (r := r) (name := name) hjm (by rw [hnm.out j hjm hj1]; exact hsm)
        replace hsm := hid hsm
        simp only [← hk] at hkl hke
        have y1 : wr.cell? ⟨g, k, none⟩ = some (.int .i64 ms[j].line) := by
          obtain ⟨b, o, hbo, hc⟩ := hg.out k (by simpa using hkl)
          obtain ⟨rfl, rfl⟩ : g = b ∧ 0 = o := by simpa using hbo
          simp only [List.getElem_map, Nat.zero_add, hke] at hc
          exact cell_later hbx hc
        obtain ⟨b2, o2, rfl, hx2⟩ := hb.out j (by simpa using hjm)
        simp only [List.getElem_map] at hx2
        replace hx2 := cell_later hbx hx2
        have hkm' : k < m := by rw [← hks.out]; exact hkl
        have hkmi : (k : Int) < (m : Int) := by omega
        have hji : (j : Int) < (n : Int) := by omega
        have hge : ¬ (m : Int) ≤ (k : Int) := by omega
        clear hkl hke
        replace hk := hid hk
        replace hbx := hid hbx
        have heq : (ms[j].line == ms[j].line) = true := by simp
        go_upto_region 6 with (go_at_call 34; refine keepW (zzSame_lit _ _ _ false hsm.out _ hsz hname) ?_; rintro e rfl)
        go_quiet (fail)
        go_wp2_with fail
        go_roundw
        case rel => exact ⟨j + 1, k + 1, by omega, by go_num, by go_num, hkm', by rw [hno.out, List.length_append, ← hk.out]; rfl, below_drewN hbx.out _⟩
        case measure => simp [intOf]; omega
    · have hjn : j = n := by omega
      have etk : ms.take j = ms := List.take_of_length_le (by rw [hml.out]; omega)
      rw [etk, hks.out] at hk
      subst hk
      replace hbx := hid hbx
      have heq : ((k : Int) == (k : Int)) = true := by simp
      go_wp2_with fail
      go_ret
      exact ⟨rfl, hbx.out⟩

set_option maxRecDepth 100000 in
set_option maxHeartbeats 4000000 in
theorem keptExactly_any (p f c n m c1 c2 : Nat) (F : Value) (l : ByteArray) (A : Array Value) (p1 p2 : Option Addr) (r : Int) (name : ByteArray) (ms : List Ent) (ss1 ss2 : List ByteArray) (w : World)
    (hp : RowAt w p 65 (stanzaCells (.slice (some ⟨f, 0, none⟩) m c) r l)) (hf : RowAt w f 57 A) (hfil : ∀ j (h : j < (keepOf r name ms).length), HasF A (keepOf r name ms)[j] j) (hmc : m ≤ c)
    (hml : ms.length = n) (hks : (keepOf r name ms).length = m) (hm : n ≤ 1048576) (hnm : ∀ j (hj : j < ms.length) (h1 : j < ss1.length), ms[j].name = ss1[j]) (hvl : ∀ j (hj : j < ms.length) (h2 : j < ss2.length), ms[j].value = ss2[j]) (hn1 : ss1.length = n) (hn2 : ss2.length = n)
    (hs1 : ∀ s ∈ ss1, s.size ≤ maxLen) (hname : name.size ≤ maxLen)
    (hc1 : CellsAt w p1 (ss1.map .string)) (hc2 : CellsAt w p2 (ss2.map .string)) :
    Calls Try.prog 64 #[.pointer (some ⟨p, 0, none⟩), .int .u8 r, .slice p1 n c1, .slice p2 n c2, .string name] w fun e w' => e = .returned (.bool true) ∧ Below w.heap.size w w' := by
  replace hml := hid hml
  replace hks := hid hks
  replace hnm := hid hnm
  replace hvl := hid hvl
  replace hn1 := hid hn1
  replace hn2 := hid hn2
  replace hs1 := hid hs1
  replace hc1 := hid hc1
  replace hc2 := hid hc2
  replace hp := hid hp
  replace hf := hid hf
  replace hfil := hid hfil
  have hmn : m ≤ n := by rw [← hks.out, ← hml.out]; exact List.length_filter_le _ _
  go_enter Try.func64, Try.ntmps64
  go_wp2
  go_loopw [11, 12] (fun tk tj wr => ∃ j k : Nat, j ≤ n ∧ tj = .int .i64 j ∧ tk = .int .i64 k ∧ k ≤ m ∧ k = (keepOf r name (ms.take j)).length ∧ Below w.heap.size w wr) (fun _ tj _ => n - (intOf tj).toNat)
  case atStart => exact ⟨0, 0, Nat.zero_le _, rfl, rfl, Nat.zero_le _, by simp [keepOf], Below.refl _ _⟩
  case round =>
    obtain ⟨j, k, hj, rfl, rfl, hkm, hk, hbx⟩ := hrel
    have y0 : wr.cell? ⟨p, 0, none⟩ = some (.slice (some ⟨f, 0, none⟩) m c) := (hp.out.below hbx hp.out.lt).cell 0
    by_cases hlt : j < n
    · have hjm : j < ms.length := by rw [hml.out]; exact hlt
      have hj1 : j < ss1.length := by rw [hn1.out]; exact hlt
      have hj2 : j < ss2.length := by rw [hn2.out]; exact hlt
      have hsz := hs1.out _ (List.getElem_mem hj1)
      obtain ⟨b1, o1, rfl, hx1⟩ := hc1.out j (by simpa using hj1)
      simp only [List.getElem_map] at hx1
      replace hx1 := cell_later hbx hx1
      cases hsm : sameB r ss1[j] name with
      | true =>
        have hys := hid (keepOf_yes (r := r) (name := name) hjm (by rw [hnm.out j hjm hj1]; exact hsm))
        replace hsm := hid hsm
        replace hk := hid hk
        replace hbx := hid hbx
        go_wp2_with (go_at_call 34; refine keepW (zzSame_lit _ _ _ true hsm.out _ hsz hname) ?_; rintro e rfl)
        go_roundw
        case rel => exact ⟨j + 1, k, by omega, by go_num, rfl, hkm, by rw [hys.out]; exact hk.out, hbx.out⟩
        case measure => simp [intOf]; omega
      | false =>
        have hno := hid (keepOf_no (r := r) (name := name) hjm (by rw [hnm.out j hjm hj1]; exact hsm))
        obtain ⟨hkl, hke⟩ := keep_at (r := r) (name := name) hjm (by rw [hnm.out j hjm hj1]; exact hsm)
        replace hsm := hid hsm
        simp only [← hk] at hkl hke
        have hfk := hfil.out k hkl
        rw [hke] at hfk
        have y1 : wr.cell? ⟨f, k * 2, none⟩ = some (.string ss1[j]) := by
          rw [(hf.out.below hbx hf.out.lt).cell, hfk.1, hnm.out j hjm hj1]
        have y2 : wr.cell? ⟨f, k * 2 + 1, none⟩ = some (.string ss2[j]) := by
          rw [(hf.out.below hbx hf.out.lt).cell, hfk.2, hvl.out j hjm hj2]
        obtain ⟨b2, o2, rfl, hx2⟩ := hc2.out j (by simpa using hj2)
        simp only [List.getElem_map] at hx2
        replace hx2 := cell_later hbx hx2
        have hkm' : k < m := by rw [← hks.out]; exact hkl
        have hkmi : (k : Int) < (m : Int) := by omega
        have hji : (j : Int) < (n : Int) := by omega
        have hge : ¬ (m : Int) ≤ (k : Int) := by omega
        clear hkl hke hfk
        replace hk := hid hk
        replace hbx := hid hbx
        go_upto_region 6 with (go_at_call 34; refine keepW (zzSame_lit _ _ _ false hsm.out _ hsz hname) ?_; rintro e rfl)
        go_quiet (fail)
        go_wp2_with fail
        go_roundw
        case rel => exact ⟨j + 1, k + 1, by omega, by go_num, by go_num, hkm', by rw [hno.out, List.length_append, ← hk.out]; rfl, below_drewN hbx.out _⟩
        case measure => simp [intOf]; omega
    · have hjn : j = n := by omega
      have etk : ms.take j = ms := List.take_of_length_le (by rw [hml.out]; omega)
      rw [etk, hks.out] at hk
      subst hk
      replace hbx := hid hbx
      have heq : ((k : Int) == (k : Int)) = true := by simp
      go_wp2_with fail
      go_ret
      exact ⟨rfl, hbx.out⟩

end Go.Proofs.Qxb6001690a
