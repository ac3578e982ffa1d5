import Derived.Test.Qxb6001690aRnd
namespace Go.Proofs.Qxb6001690a
open Go.RowKit
set_option linter.unusedVariables false
set_option linter.unusedSimpArgs false

set_option maxRecDepth 100000 in
set_option maxHeartbeats 4000000 in
theorem lawR (a1 a2 a3 : Option Addr) (n1 n2 n3 c1 c2 c3 : Nat) (ss1 ss2 : List ByteArray) (xs : List Int) (r first : Int) (ok : Bool) (w : World)
    (hn1 : ss1.length = n1) (hn2 : ss2.length = n2) (hn3 : xs.length = n3) (hm1 : n1 ≤ maxLen) (hm2 : n2 ≤ maxLen) (hm3 : n3 ≤ maxLen) (hs1 : ∀ s ∈ ss1, s.size ≤ maxLen) (hs2 : ∀ s ∈ ss2, s.size ≤ maxLen) (hx3 : ∀ x ∈ xs, (Lit.int .i64 x).wf = true) (hfw : (Lit.int .i64 first).wf = true)
    (hc1 : CellsAt w a1 (ss1.map .string)) (hc2 : CellsAt w a2 (ss2.map .string)) (hc3 : CellsAt w a3 (xs.map (.int .i64))) (ha1 : a1 = none → n1 = 0) (ha2 : a2 = none → n2 = 0) (ha3 : a3 = none → n3 = 0) :
    Calls Try.prog 10 #[.slice a1 n1 c1, .slice a2 n2 c2, .int .u8 r, .int .i64 first, .slice a3 n3 c3, .bool ok] w fun e w' => e = .returned (.bool true) ∧ Below w.heap.size w w' := by
  have hG1 := strsBytes_bd ss1 0 (by omega)
  have hG2 := strsBytes_bd ss2 (strsBytes 0 ss1) hG1.1
  have K56 := zzBytes56_any a1 a2 a3 n1 n2 n3 c1 c2 c3 ss1 ss2 (.int .u8 r) (.int .i64 first) (.bool ok) w hn1 hn2 hm1 hm2 hm3 hs1 hs2 hc1 hc2
  have K17a := strsBytes_any 0 a1 n1 c1 ss1 w hn1 (by omega) (by omega) hm1 hs1 hc1
  have K17b := strsBytes_any (strsBytes 0 ss1) a2 n2 c2 ss2 w hn2 hG1.1 hG1.2 hm2 hs2 hc2
  have K57 := intsBytes_any (strsBytes (strsBytes 0 ss1) ss2) a3 n3 c3 w hG2.1 hG2.2 hm3
  generalize e1 : strsBytes 0 ss1 = G1 at K17a K17b K57
  generalize e2 : strsBytes G1 ss2 = G2 at K17b K57
  generalize e3 : flatBytes G2 8 n3 = G at K57
  replace K56 := hid K56
  replace K17a := hid K17a
  replace K17b := hid K17b
  replace K57 := hid K57
  have hsum : G ≤ 1048576 → 16 * n1 + total ss1 + 16 * n2 + total ss2 + 8 * n3 ≤ 1048576 := by
    intro h
    have h3 := flatBytes_le (t := G2) (k := 8) (n := n3) (by rw [e3]; omega)
    rw [e3] at h3
    have h2 := strsBytes_le (t := G1) (ss := ss2) (by rw [e2]; omega)
    rw [e2] at h2
    have h1 := strsBytes_le (t := 0) (ss := ss1) (by rw [e1]; omega)
    rw [e1, hn1] at h1
    rw [hn2] at h2
    omega
  clear e1 e2 e3 hG1 hG2
  replace hn1 := hid hn1
  replace hn2 := hid hn2
  replace hn3 := hid hn3
  replace hs1 := hid hs1
  replace hs2 := hid hs2
  replace hx3 := hid hx3
  replace hfw := hid hfw
  replace hc1 := hid hc1
  replace hc2 := hid hc2
  replace hc3 := hid hc3
  replace ha1 := hid ha1
  replace ha2 := hid ha2
  replace ha3 := hid ha3
  unfold maxLen at hm1 hm2 hm3
  by_cases hbig : 1048576 < G
  · clear hsum
    go_enter Try.func10, Try.ntmps10
    go_wp2_with (go_at_call 56; refine keepW K56.out ?_; rintro e ⟨b, rfl⟩; cases b)
    · go_ret
      exact ⟨rfl, Below.refl _ _⟩
    refine keepW K17a.out ?_
    rintro e rfl
    go_wp2_with fail
    refine keepW K17b.out ?_
    rintro e rfl
    go_wp2_with fail
    refine keepW K57.out ?_
    rintro e rfl
    go_wp2_with fail
    go_ret
    exact ⟨rfl, Below.refl _ _⟩
  replace hsum := hsum (by omega)
  by_cases hlen : n1 = n2
  case neg =>
    have hb : ((n1 : Int) == (n2 : Int)) = false := by simp; omega
    have hbi : (n1 : Int) ≠ (n2 : Int) := by omega
    clear hlen hsum
    go_enter Try.func10, Try.ntmps10
    go_wp2_with (go_at_call 56; refine keepW K56.out ?_; rintro e ⟨b, rfl⟩; cases b)
    · go_ret
      exact ⟨rfl, Below.refl _ _⟩
    refine keepW K17a.out ?_
    rintro e rfl
    go_wp2_with fail
    refine keepW K17b.out ?_
    rintro e rfl
    go_wp2_with fail
    refine keepW K57.out ?_
    rintro e rfl
    go_wp2_with fail
    go_ret
    exact ⟨rfl, Below.refl _ _⟩
  case pos =>
  subst hlen
  go_enter Try.func10, Try.ntmps10
  go_wp2_with (go_at_call 56; refine keepW K56.out ?_; rintro e ⟨b, rfl⟩; cases b)
  · go_ret
    exact ⟨rfl, Below.refl _ _⟩
  refine keepW K17a.out ?_
  rintro e rfl
  go_wp2_with fail
  refine keepW K17b.out ?_
  rintro e rfl
  go_wp2_with fail
  refine keepW K57.out ?_
  rintro e rfl
  go_wp2_with fail
  clear K56 K17a K17b K57 hbig
  refine (cloneStrs_any a1 n1 c1 ss1 w hn1.out (by omega) ha1.out hc1.out).mono ?_
  rintro e w1 ⟨⟨p1, rfl, hp1, hd1⟩, hb1⟩
  replace hd1 := hid hd1
  replace hb1 := hid hb1
  clear hp1
  go_wp2_with fail
  refine (cloneStrs_any a2 n1 c2 ss2 w1 hn2.out (by omega) ha2.out (hc2.out.below hb1.out)).mono ?_
  rintro e w2 ⟨⟨p2, rfl, hp2, hd2⟩, hb2⟩
  replace hd2 := hid hd2
  replace hb2 := hid hb2
  clear hp2
  go_wp2_with fail
  refine (cloneInts_any a3 n3 c3 xs w2 hn3.out (by omega) ha3.out ((hc3.out.below hb1.out).below hb2.out)).mono ?_
  rintro e w3 ⟨⟨p3, rfl, hp3, hd3⟩, hb3⟩
  replace hd3 := hid hd3
  have hd1' : Hid (CellsAt w3 p1 (ss1.map .string)) := (hd1.out.below hb2.out).below hb3
  have hd2' : Hid (CellsAt w3 p2 (ss2.map .string)) := hd2.out.below hb3
  have hW3 : Hid (Below w.heap.size w w3) := hb1.out.trans ((hb2.out.mono hb1.out.size).trans (hb3.mono (Nat.le_trans hb1.out.size hb2.out.size)))
  clear hd1 hd2 hb1 hb2 hb3 hp3 hc1 hc2 hc3 ha1 ha2 ha3
  go_wp2_with fail
  refine (zzFields_any p1 p2 n1 n1 n1 ss1 ss2 w3 hn1.out hn2.out (by omega) hd1'.out hd2'.out).mono ?_
  rintro e w4 ⟨⟨g4, rfl, hrow4, hg4⟩, hb4⟩
  replace hb4 := hid hb4
  clear hrow4 hg4 hd1' hd2'
  go_wp2_with fail
  refine (newStanza_any _ _ _ _ r _ rfl w4).mono ?_
  rintro e w5 ⟨⟨p, rfl, hp, hpe⟩, hb5⟩
  have hW5 : Hid (Below w3.heap.size w3 w5) := hb4.out.trans (hb5.mono hb4.out.size)
  have hpw : Hid (w3.heap.size ≤ p) := by have := hb4.out.size; show w3.heap.size ≤ p; omega
  replace hp := hid hp
  clear hb4 hb5 hpe
  cases ok with
  | false =>
    clear hsum
    go_wp2_with fail
    refine (zzSetLines_no p _ r _ first _ w5 hp.out).mono ?_
    rintro e w6 ⟨rfl, hw6⟩
    have hp6 : RowAt w6 p 65 (stanzaCells (.slice (some ⟨g4, 0, none⟩) n1 n1) r ⟨#[]⟩) := by rw [hw6]; exact hp.out.set 3 _
    have hW6 : Hid (Below w3.heap.size w3 w6) := by
      show Below w3.heap.size w3 w6
      rw [hw6]; exact hW5.out.setCell (p := ⟨p, 3, none⟩) hpw.out _
    clear hw6
    have KF := zzFieldLines_of p w6 (fun a b c w' => a = .int .i64 0 ∧ b = .slice none 0 0 ∧ c = .bool false ∧ Below w6.heap.size w6 w') ((fieldLines_empty p _ r w6 hp6).mono fun e w' ⟨he, hb⟩ => ⟨_, _, _, he, rfl, rfl, rfl, hb⟩)
    replace KF := hid KF
    clear hp6 hp
    go_wp2_with fail
    refine Calls.mono KF.out ?_
    rintro e w7 ⟨x1, x2, x3, rfl, rfl, rfl, rfl, hb7⟩
    replace hb7 := hid hb7
    go_wp2_with fail
    go_ret
    exact ⟨rfl, hW3.out.trans ((hW6.out.trans (hb7.out.mono hW6.out.size)).mono hW3.out.size)⟩
  | true =>
    go_wp2_with fail
    refine (zzSetLines_yes p _ r _ first p3 n3 n3 xs w5 hp.out hn3.out (by omega) (cells_upto hd3.out hW5.out)).mono ?_
    rintro e w6 ⟨rfl, hp6, hk6⟩
    have hW6 : Hid (Below w3.heap.size w3 w6) := hW5.out.trans (hk6.below (Nat.le_of_lt (Nat.lt_of_le_of_lt hpw.out hp.out.lt)) (fun k hk => by have := hpw.out; omega))
    clear hk6
    by_cases hne : n3 = n1
    case neg =>
      have KF := zzFieldLines_of p w6 (fun a b c w' => a = .int .i64 0 ∧ b = .slice none 0 0 ∧ c = .bool false ∧ Below w6.heap.size w6 w')
        ((fieldLines_other p _ n1 n1 r first n3 xs w6 hne (by omega) (by omega) hfw.out (by rw [hn3.out]; omega) hp6).mono fun e w' ⟨he, hb⟩ => ⟨_, _, _, he, rfl, rfl, rfl, hb⟩)
      replace KF := hid KF
      have hb : ((n3 : Int) == (n1 : Int)) = false := by simp; omega
      have hbi : (n3 : Int) ≠ (n1 : Int) := by omega
      clear hp6 hp hne hsum
      go_wp2_with fail
      refine Calls.mono KF.out ?_
      rintro e w7 ⟨x1, x2, x3, rfl, rfl, rfl, rfl, hb7⟩
      replace hb7 := hid hb7
      go_wp2_with fail
      go_ret
      exact ⟨rfl, hW3.out.trans ((hW6.out.trans (hb7.out.mono hW6.out.size)).mono hW3.out.size)⟩
    case pos =>
    subst hne
    have KF := zzFieldLines_of p w6 (fun a b c w' => ∃ g, a = .int .i64 first ∧ b = .slice (some ⟨g, 0, none⟩) n3 n3 ∧ c = .bool true ∧ RowAt w' g 3 (xs.map (.int .i64)).toArray ∧ Below w6.heap.size w6 w')
      ((fieldLines_ok p _ n3 n3 r first xs w6 hn3.out (by omega) hfw.out hx3.out hp6).mono fun e w' ⟨⟨g, he, hrow, _⟩, hb⟩ => ⟨_, _, _, he, g, rfl, rfl, rfl, hrow, hb⟩)
    replace KF := hid KF
    have hni : (n3 : Int) ≤ 1048576 := by omega
    clear hp6 hp hsum
    go_wp2_with fail
    refine Calls.mono KF.out ?_
    rintro e w7 ⟨x1, x2, x3, rfl, g, rfl, rfl, rfl, hrow, hb7⟩
    replace hb7 := hid hb7
    replace hrow := hid hrow
    have hfe : (first == first) = true := by simp
    clear KF
    go_wp2_with fail
    clear hfe
    go_loopw [17] (fun i wx => ∃ j : Nat, j ≤ n3 ∧ i = .int .i64 j ∧ Below w7.heap.size w7 wx) (fun i _ => n3 - (intOf i).toNat)
    case atStart => exact ⟨0, Nat.zero_le _, rfl, Below.refl _ _⟩
    case round =>
      obtain ⟨j, hj, rfl, hbx⟩ := hrel
      by_cases hlt : j < n3
      · have hjl : j < xs.length := by rw [hn3.out]; exact hlt
        obtain ⟨b2, o2, rfl, hx2c⟩ := hd3.out j (by simpa using hjl)
        simp only [List.getElem_map] at hx2c
        replace hx2c := cell_later (hW6.out.trans ((hb7.out.trans (hbx.mono hb7.out.size)).mono hW6.out.size)) hx2c
        have hg : wr.cell? ⟨g, j, none⟩ = some (.int .i64 xs[j]) := ((hrow.out.below hbx hrow.out.lt).cell j).trans (by simp [hjl])
        have hfe : (xs[j] == xs[j]) = true := by simp
        replace hbx := hid hbx
        go_wp2_with fail
        go_quiet (fail)
        go_wp2_with fail
        go_roundw
        case rel => exact ⟨j + 1, by omega, by go_num, below_drewN hbx.out _⟩
        case measure => simp [intOf]; omega
      · replace hbx := hid hbx
        go_wp2_with fail
        go_ret
        exact ⟨rfl, hW3.out.trans ((hW6.out.trans ((hb7.out.trans (hbx.out.mono hb7.out.size)).mono hW6.out.size)).mono hW3.out.size)⟩

end Go.Proofs.Qxb6001690a
