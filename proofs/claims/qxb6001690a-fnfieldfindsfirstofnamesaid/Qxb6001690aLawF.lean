import Derived.Test.Qxb6001690aText
import Derived.Deep.DeepCutAuto
import Derived.Deep.LoopGhost
import Derived.Deep.CutBlock
namespace Go.Proofs.Qxb6001690a
open Go.RowKit
set_option linter.unusedVariables false
set_option linter.unusedSimpArgs false

theorem zzSame_is (r : Int) (a b : ByteArray) (x : Bool) (h : sameB r a b = x) (w : World) (ha : a.size ≤ maxLen) (hb : b.size ≤ maxLen) :
    Calls Try.prog 34 #[.int .u8 r, .string a, .string b] w fun e w' => e = .returned (.bool x) ∧ w' = w := by
  subst h; exact zzSame_any r a b w ha hb
theorem keep {P : Program} {f : FuncId} {args : Array Value} {w : World} {A : Ending → Prop} {R : Ending → World → Prop} (h : Calls P f args w fun e w' => A e ∧ w' = w) (k : ∀ e, A e → R e w) : Calls P f args w R :=
  h.mono fun e w' ⟨ha, hw⟩ => by subst hw; exact k e ha

set_option maxRecDepth 100000 in
set_option maxHeartbeats 4000000 in
theorem lawF (a1 a2 a3 : Option Addr) (n1 n2 n3 c1 c2 c3 : Nat) (ss1 ss2 : List ByteArray) (bs : List Bool) (u : Bool) (r : Int) (name : ByteArray) (w : World)
    (hn1 : ss1.length = n1) (hn2 : ss2.length = n2) (hn3 : bs.length = n3) (hm1 : n1 ≤ maxLen) (hm2 : n2 ≤ maxLen) (hm3 : n3 ≤ maxLen) (hs : name.size ≤ maxLen) (hs1 : ∀ s ∈ ss1, s.size ≤ maxLen) (hs2 : ∀ s ∈ ss2, s.size ≤ maxLen)
    (hc1 : CellsAt w a1 (ss1.map .string)) (hc2 : CellsAt w a2 (ss2.map .string)) (hc3 : CellsAt w a3 (bs.map .bool)) (ha1 : a1 = none → n1 = 0) (ha2 : a2 = none → n2 = 0) (ha3 : a3 = none → n3 = 0) :
    Calls Try.prog 6 #[.slice a1 n1 c1, .slice a2 n2 c2, .slice a3 n3 c3, .bool u, .int .u8 r, .string name] w fun e w' => e = .returned (.bool true) ∧ Below w.heap.size w w' := by
  have hG1 := strsBytes_bd ss1 0 (by omega)
  have hG2 := strsBytes_bd ss2 (strsBytes 0 ss1) hG1.1
  have hG3 := flatBytes_bd (strsBytes (strsBytes 0 ss1) ss2) 1 n3 (by omega) hG2.1
  have K30 := zzBytes30_any a1 a2 a3 n1 n2 n3 c1 c2 c3 ss1 ss2 (.bool u) (.int .u8 r) name w hn1 hn2 hm1 hm2 hm3 hs hs1 hs2 hc1 hc2
  have K17a := strsBytes_any 0 a1 n1 c1 ss1 w hn1 (by omega) (by omega) hm1 hs1 hc1
  have K17b := strsBytes_any (strsBytes 0 ss1) a2 n2 c2 ss2 w hn2 hG1.1 hG1.2 hm2 hs2 hc2
  have K31 := boolsBytes_any (strsBytes (strsBytes 0 ss1) ss2) a3 n3 c3 w hG2.1 hG2.2 hm3
  have K16 := strBytes_any (flatBytes (strsBytes (strsBytes 0 ss1) ss2) 1 n3) name w hG3.1 hG3.2 hs
  generalize e1 : strsBytes 0 ss1 = G1 at K17a K17b K31 K16
  generalize e2 : strsBytes G1 ss2 = G2 at K17b K31 K16
  generalize e3 : flatBytes G2 1 n3 = G3 at K31 K16
  generalize e4 : strBytes G3 name = G at K16
  have HE1 : Hid (strsBytes 0 ss1 = G1) := e1
  have HE2 : Hid (strsBytes G1 ss2 = G2) := e2
  have HE3 : Hid (flatBytes G2 1 n3 = G3) := e3
  have HE4 : Hid (strBytes G3 name = G) := e4
  replace K30 := hid K30
  replace K17a := hid K17a
  replace K17b := hid K17b
  replace K31 := hid K31
  replace K16 := hid K16
  clear e1 e2 e3 e4
  have HN1 : Hid (ss1.length = n1) := hn1
  have HN2 : Hid (ss2.length = n2) := hn2
  have HN3 : Hid (bs.length = n3) := hn3
  have HS1 : Hid (∀ s ∈ ss1, s.size ≤ maxLen) := hs1
  have HS2 : Hid (∀ s ∈ ss2, s.size ≤ maxLen) := hs2
  have HC1 : Hid (CellsAt w a1 (ss1.map .string)) := hc1
  have HC2 : Hid (CellsAt w a2 (ss2.map .string)) := hc2
  have HC3 : Hid (CellsAt w a3 (bs.map .bool)) := hc3
  have HA1 : Hid (a1 = none → n1 = 0) := ha1
  have HA2 : Hid (a2 = none → n2 = 0) := ha2
  have HA3 : Hid (a3 = none → n3 = 0) := ha3
  have hsn := hs
  unfold maxLen at hm1 hm2 hm3 hsn
  clear hn1 hn2 hn3 hs1 hs2 hc1 hc2 hc3 ha1 ha2 ha3 hG1 hG2 hG3
  have hsum : G ≤ 1048576 → 16 * n1 + total ss1 + 16 * n2 + total ss2 + n3 + name.size ≤ 1048576 := by
    intro h
    have h4 := strBytes_le (t := G3) (s := name) (by rw [HE4.out]; exact h)
    rw [HE4.out] at h4
    have h3 := flatBytes_le (t := G2) (k := 1) (n := n3) (by rw [HE3.out]; omega)
    rw [HE3.out] at h3
    have h2 := strsBytes_le (t := G1) (ss := ss2) (by rw [HE2.out]; omega)
    rw [HE2.out] at h2
    have h1 := strsBytes_le (t := 0) (ss := ss1) (by rw [HE1.out]; omega)
    rw [HE1.out] at h1
    rw [HN1.out] at h1
    rw [HN2.out] at h2
    omega
  by_cases hbig : 1048576 < G
  · clear hsum
    go_enter Try.func6, Try.ntmps6
    go_wp2_with (go_at_call 30; refine keep K30.out ?_; rintro e ⟨b, rfl⟩; cases b)
    · go_ret
      exact ⟨rfl, Below.refl _ _⟩
    refine keep K17a.out ?_
    rintro e rfl
    go_wp2_with fail
    refine keep K17b.out ?_
    rintro e rfl
    go_wp2_with fail
    refine keep K31.out ?_
    rintro e rfl
    go_wp2_with fail
    refine keep K16.out ?_
    rintro e rfl
    go_wp2_with fail
    go_ret
    exact ⟨rfl, Below.refl _ _⟩
  replace hsum := hsum (by omega)
  clear HE1 HE2 HE3 HE4
  by_cases hlens : n1 = n2 ∧ n1 = n3 ∧ n1 ≤ 512
  case neg =>
    have hh : (n1 : Int) ≠ (n2 : Int) ∨ (n1 = n2 ∧ ((n1 : Int) ≠ (n3 : Int) ∨ (n1 = n3 ∧ 512 < (n1 : Int)))) := by omega
    clear hlens
    clear hsum
    go_enter Try.func6, Try.ntmps6
    go_wp2_with (go_at_call 30; refine keep K30.out ?_; rintro e ⟨b, rfl⟩; cases b)
    · go_ret
      exact ⟨rfl, Below.refl _ _⟩
    refine keep K17a.out ?_
    rintro e rfl
    go_wp2_with fail
    refine keep K17b.out ?_
    rintro e rfl
    go_wp2_with fail
    refine keep K31.out ?_
    rintro e rfl
    go_wp2_with fail
    refine keep K16.out ?_
    rintro e rfl
    rcases hh with hh | ⟨h1, hh | ⟨h2, hh⟩⟩
    · have hb : ((n1 : Int) == (n2 : Int)) = false := by simpa using hh
      go_wp2_with fail
      go_ret
      exact ⟨rfl, Below.refl _ _⟩
    · subst h1
      have hb : ((n1 : Int) == (n3 : Int)) = false := by simpa using hh
      go_wp2_with fail
      go_ret
      exact ⟨rfl, Below.refl _ _⟩
    · subst h1
      subst h2
      go_wp2_with fail
      go_ret
      exact ⟨rfl, Below.refl _ _⟩
  case pos =>
  obtain ⟨h12, h13, h512⟩ := hlens
  subst h12
  subst h13
  go_enter Try.func6, Try.ntmps6
  go_wp2_with (go_at_call 30; refine keep K30.out ?_; rintro e ⟨b, rfl⟩; cases b)
  · go_ret
    exact ⟨rfl, Below.refl _ _⟩
  refine keep K17a.out ?_
  rintro e rfl
  go_wp2_with fail
  refine keep K17b.out ?_
  rintro e rfl
  go_wp2_with fail
  refine keep K31.out ?_
  rintro e rfl
  go_wp2_with fail
  refine keep K16.out ?_
  rintro e rfl
  go_wp2_with fail
  clear K30 K17a K17b K31 K16
  go_loop [13] (fun i => ∃ k : Nat, k ≤ n1 ∧ i = .int .i64 k ∧ ∀ j (hj : j < ss1.length), j < k → hasB ss1[j] 58 = false) (fun i => n1 - (intOf i).toNat)
  case atStart => exact ⟨0, Nat.zero_le _, rfl, fun j _ h => absurd h (by omega)⟩
  case round =>
    obtain ⟨k, hk, rfl, hno⟩ := hrel
    have HO : Hid (∀ j (hj : j < ss1.length), j < k → hasB ss1[j] 58 = false) := hno
    clear hno
    by_cases hlt : k < n1
    · have hkl : k < ss1.length := by rw [HN1.out]; exact hlt
      obtain ⟨b, off, rfl, hcell⟩ := HC1.out k (by simpa using hkl)
      simp only [List.getElem_map] at hcell
      have hsz := HS1.out ss1[k] (List.getElem_mem hkl)
      cases hhas : hasB ss1[k] 58 with
      | true =>
        go_wp2_with (go_at_call 25; refine keep (hasByte_any _ _ _ hsz) ?_; rintro e rfl)
        go_ret
        exact ⟨rfl, Below.refl _ _⟩
      | false =>
        go_wp2_with (go_at_call 25; refine keep (hasByte_any _ _ _ hsz) ?_; rintro e rfl)
        go_round
        case rel =>
          refine ⟨k + 1, by omega, by go_num, fun j hj hjk => ?_⟩
          by_cases e : j = k
          · subst e; exact hhas
          · exact HO.out j hj (by omega)
        case measure => simp [intOf]; omega
    have HO' : Hid (∀ j (hj : j < ss1.length), hasB ss1[j] 58 = false) := fun j hj => HO.out j hj (by have := HN1.out; omega)
    clear HO
    go_wp2_with fail
    refine (cloneStrs_any a1 n1 c1 ss1 w HN1.out (by omega) HA1.out HC1.out).mono ?_
    rintro e w1 ⟨⟨p1, rfl, hp1, hd1⟩, hb1⟩
    replace hp1 := hid hp1
    replace hd1 := hid hd1
    replace hb1 := hid hb1
    go_wp2_with fail
    refine (cloneStrs_any a2 n1 c2 ss2 w1 HN2.out (by omega) HA2.out (HC2.out.below hb1.out)).mono ?_
    rintro e w2 ⟨⟨p2, rfl, hp2, hd2⟩, hb2⟩
    replace hp2 := hid hp2
    replace hd2 := hid hd2
    replace hb2 := hid hb2
    go_wp2_with fail
    refine (cloneBools_any a3 n1 c3 bs w2 HN3.out (by omega) HA3.out ((HC3.out.below hb1.out).below hb2.out)).mono ?_
    rintro e w3 ⟨⟨p3, rfl, hp3, hd3⟩, hb3⟩
    replace hp3 := hid hp3
    replace hd3 := hid hd3
    have hd1' : Hid (CellsAt w3 p1 (ss1.map .string)) := (hd1.out.below hb2.out).below hb3
    have hd2' : Hid (CellsAt w3 p2 (ss2.map .string)) := hd2.out.below hb3
    have HW3 : Hid (Below w.heap.size w w3) := hb1.out.trans ((hb2.out.mono hb1.out.size).trans (hb3.mono (Nat.le_trans hb1.out.size hb2.out.size)))
    clear hd1 hd2 hb1 hb2 hb3 HC1 HC2 HC3 HA1 HA2 HA3
    have hmk := run_make_row' (P := Try.prog) 45 3 (.int .i64 0) 8 Try.underlying45 Try.info3 rfl .i64 .i64 n1 (by omega) (by omega)
    clear hbig
    go_wp2
    go_loopw [14, 17] (fun v i wr => ∃ (k : Nat) (p : Option Addr) (c m : Nat) (sarr earr : Array Value), k ≤ n1 ∧ i = .int .i64 k ∧ v = .slice p m c ∧ m = (upTo u bs ss1 ss2 k).length ∧ Lines u bs ss1 ss2 n1 w3 wr k p c sarr earr) (fun _ i _ => n1 - (intOf i).toNat)
    case atStart => exact ⟨0, none, 0, 0, _, _, Nat.zero_le _, rfl, rfl, rfl, Lines.start _ _ _ _ _ _⟩
    case round =>
      clear hlt hk
      rename_i k0 _
      obtain ⟨k, p, c, m, sarr, earr, hk, rfl, rfl, hm, hL⟩ := hrel
      replace hm := hid hm
      replace hL := hid hL
      by_cases hlt : k < n1
      · have hkl1 : k < ss1.length := by rw [HN1.out]; exact hlt
        have hkl2 : k < ss2.length := by rw [HN2.out]; exact hlt
        have hkl3 : k < bs.length := by rw [HN3.out]; exact hlt
        have hlti : (k : Int) < (n1 : Int) := by omega
        obtain ⟨b1, o1, rfl, hx1⟩ := hd1'.out k (by simpa using hkl1)
        obtain ⟨b2, o2, rfl, hx2⟩ := hd2'.out k (by simpa using hkl2)
        obtain ⟨b3, o3, rfl, hx3⟩ := hd3.out k (by simpa using hkl3)
        simp only [List.getElem_map] at hx1 hx2 hx3
        have hfs := hL.out.rs.frozen k
        obtain ⟨v0, hold⟩ := hL.out.rs.cellEx (j := k) (by rw [hL.out.ss]; exact hlt)
        have later : Hid (∀ wx, Below w3.heap.size w3 wx → wx.cell? ⟨b1, o1 + k, none⟩ = some (.string ss1[k]) ∧ wx.cell? ⟨b2, o2 + k, none⟩ = some (.string ss2[k]) ∧ wx.cell? ⟨b3, o3 + k, none⟩ = some (.bool bs[k])) :=
          fun wx hb => ⟨cell_later hb hx1, cell_later hb hx2, cell_later hb hx3⟩
        clear hx1 hx2 hx3
        have HO1 : Hid (Below w3.heap.size w3 (wr.setCell ⟨w3.heap.size, k, none⟩ (.int .i64 m))) := hL.out.old.setCell (p := ⟨w3.heap.size, k, none⟩) (Nat.le_refl _) _
        go_upto_region 22 with fail
        obtain ⟨y1, y2, y3⟩ := later.out _ HO1.out
        go_cut [115] (fun t wx => t = .bool (escB u bs[k] ss1[k]) ∧ wx = wr.setCell ⟨w3.heap.size, k, none⟩ (.int .i64 m))
        case first =>
          cases u with
          | true =>
            go_wp2_with fail
            go_meet
            case rel => exact ⟨rfl, rfl⟩
          | false =>
            cases hb3 : bs[k] with
            | true =>
              rw [hb3] at y3
              have HB3 : Hid (bs[k] = true) := hb3
              clear hb3
              go_wp2_with fail
              go_meet
              case rel => exact ⟨by rw [HB3.out]; rfl, rfl⟩
            | false =>
              rw [hb3] at y3
              have HB3 : Hid (bs[k] = false) := hb3
              clear hb3
              by_cases hz : ss1[k].size = 0
              · have hz' : ¬ (0 : Int) < (ss1[k].size : Int) := by omega
                have HZ : Hid (ss1[k].size = 0) := hz
                clear hz
                go_wp2_with fail
                go_meet
                case rel => exact ⟨by rw [HB3.out, escB_zero HZ.out], rfl⟩
              · have hz' : (0 : Int) < (ss1[k].size : Int) := by omega
                have hz0 : 0 < ss1[k].size := by omega
                have HE : Hid (escB false false ss1[k] = decide ((ss1[k][0].toNat : Int) = 45)) := escB_pos hz0
                go_wp2_with fail
                go_meet
                case rel => exact ⟨by rw [HB3.out, HE.out]; rfl, rfl⟩
        case rest =>
          obtain ⟨rfl, rfl⟩ := hcut
          have hb0 : BufAt (wr.setCell ⟨w3.heap.size, k, none⟩ (.int .i64 m)) (w3.heap.size + 2) p c (upTo u bs ss1 ss2 k) := hL.out.buf.setBelow (by show w3.heap.size < _; omega) _
          replace hb0 := hid hb0
          have hlen : (upTo u bs ss1 ss2 n1).length ≤ 1064960 := by
            have h := upTo_length u bs ss1 ss2 (by rw [HN1.out, HN2.out])
            rw [HN1.out] at h
            omega
          have hlen1 := upTo_le u bs ss1 ss2 (show k + 1 ≤ n1 from hlt)
          have hstep : upTo u bs ss1 ss2 (k + 1) = upTo u bs ss1 ss2 k ++ piece u bs[k] ss1[k] ss2[k] := by
            simp [upTo, pieceAt, hkl1, hkl2, hkl3]
          have HSTEP : Hid _ := hstep
          rw [hstep] at hlen1
          unfold piece at hlen1
          simp only [List.length_append, List.length_cons, List.length_nil] at hlen1
          have sz1 : ss1[k].data.toList.length = ss1[k].size := by simp
          have sz2 : ss2[k].data.toList.length = ss2[k].size := by simp
          rw [sz1, sz2] at hlen1
          have HLEN : Hid ((upTo u bs ss1 ss2 k).length + ((if escB u bs[k] ss1[k] = true then [45, 32] else ([] : List UInt8)).length + (ss1[k].size + (0 + 1 + (ss2[k].size + (0 + 1))))) ≤ 1064960) := Nat.le_trans hlen1 hlen
          clear hstep hlen hlen1 sz1 sz2
          go_upto_if 115 with fail
          go_cut [14] (fun v wx => ∃ (p' : Option Addr) (c' m' : Nat), v = .slice p' m' c' ∧ m' = (upTo u bs ss1 ss2 k ++ (if escB u bs[k] ss1[k] = true then [45, 32] else [])).length ∧ BufAt wx (w3.heap.size + 2) p' c' (upTo u bs ss1 ss2 k ++ (if escB u bs[k] ss1[k] = true then [45, 32] else [])) ∧ Below (w3.heap.size + 2) (wr.setCell ⟨w3.heap.size, k, none⟩ (.int .i64 m)) wx)
          case first =>
            cases hE : escB u bs[k] ss1[k] with
            | true =>
              have HE : Hid _ := hE
              have h2 := HLEN.out
              rw [hE] at h2
              simp only [if_true, List.length_cons, List.length_nil] at h2
              have hl2 : (upTo u bs ss1 ss2 k).length + 2 ≤ 1099511627776 := by omega
              clear h2
              have hzz : wr.heap.size = (wr.setCell ⟨w3.heap.size, k, none⟩ (.int .i64 m)).heap.size := by simp
              replace hzz := hid hzz
              go_wp2_with (at_builtin; refine wpList_append_lit _ rfl (.tmp 116) (.tmp 117) rfl (w3.heap.size + 2) p c m (upTo u bs ss1 ss2 k) rfl hm.out (hb0.out.alloc _) [45, 32] ⟨wr.heap.size, 0, none⟩ 2 2 rfl rfl (two_new hzz.out _ _ _) hl2 ?_; intro p' c' n' w' hn' hb' hB'; replace hn' := hid hn'; replace hb' := hid hb'; replace hB' := hid hB')
              go_meet
              case rel => exact ⟨p', c', n', rfl, by simp only [hE, if_true]; exact hn'.out, by simp only [hE, if_true]; exact hb'.out, ((Below.refl _ _).alloc hb0.out.2 _).trans hB'.out⟩
            | false =>
              go_wp2_with fail
              go_meet
              case rel => exact ⟨p, c, m, rfl, by simp only [hE, Bool.false_eq_true, if_false, List.append_nil]; exact hm.out, by simp only [hE, Bool.false_eq_true, if_false, List.append_nil]; exact hb0.out, Below.refl _ _⟩
          case rest =>
            obtain ⟨p', c', m', rfl, hm', hb', hB'⟩ := hcut
            obtain ⟨L0, HL0⟩ : ∃ L0, Hid (upTo u bs ss1 ss2 k ++ (if escB u bs[k] ss1[k] = true then [45, 32] else []) = L0) := ⟨_, hid rfl⟩
            rw [HL0.out] at hm' hb'
            have hl0 : L0.length + (ss1[k].size + (1 + (ss2[k].size + 1))) ≤ 1064960 := by
              have h := HLEN.out
              rw [← HL0.out, List.length_append]
              omega
            replace hm' := hid hm'
            replace hb' := hid hb'
            have hO2 : Below w3.heap.size w3 wc := HO1.out.trans (hB'.mono (by omega))
            have HRE : Hid (RowAt wc (w3.heap.size + 1) 3 earr) := (hL.out.re.setOther (by omega) _ _).below hB' (by omega)
            replace hB' := hid hB'
            obtain ⟨z1, z2, z3⟩ := later.out wc hO2
            replace hO2 := hid hO2
            have sz1 : ss1[k].data.toList.length = ss1[k].size := by simp
            have sz2 : ss2[k].data.toList.length = ss2[k].size := by simp
            have la : L0.length + ss1[k].size ≤ 1099511627776 := by omega
            have lb : (L0 ++ ss1[k].data.toList).length + ([58] : List UInt8).length ≤ 1099511627776 := by rw [List.length_append, sz1]; simp; omega
            have lc : (L0 ++ ss1[k].data.toList ++ [58]).length + ss2[k].size ≤ 1099511627776 := by rw [List.length_append, List.length_append, sz1]; simp; omega
            have ld : (L0 ++ ss1[k].data.toList ++ [58] ++ ss2[k].data.toList).length + (⟨#[10]⟩ : ByteArray).size ≤ 1099511627776 := by
              rw [List.length_append, List.length_append, List.length_append, sz1, sz2]
              show _ + 1 ≤ _
              simp
              omega
            replace la := hid la
            replace lb := hid lb
            replace lc := hid lc
            replace ld := hid ld
            clear hl0 sz1 sz2 y1 y2 y3 z2 z3 HLEN hfs hold
            go_wp2_with (first
              | (at_builtin; refine wpList_append_str _ rfl (.tmp 119) (.tmp 123) rfl (w3.heap.size + 2) p' c' m' L0 rfl hm'.out hb'.out ss1[k] rfl la.out ?_; intro q1 d1 m1 v1 hm1 hc1 hB1; clear z1; replace hm1 := hid hm1; replace hc1 := hid hc1; replace hB1 := hid hB1)
              | (at_builtin; refine wpList_append_lit _ rfl (.tmp 125) (.tmp 126) rfl (w3.heap.size + 2) q1 d1 m1 (L0 ++ ss1[k].data.toList) rfl hm1.out (hc1.out.alloc _) [58] ⟨v1.heap.size, 0, none⟩ 1 1 rfl rfl (one_new rfl _ _) lb.out ?_; intro q2 d2 m2 v2 hm2 hc2 hB2; have hO4 := hO2.out.trans ((hB1.out.trans (((Below.refl _ _).alloc hc1.out.2 _).trans hB2)).mono (show w3.heap.size ≤ w3.heap.size + 2 by omega)); replace hm2 := hid hm2; replace hc2 := hid hc2; replace hB2 := hid (((Below.refl _ _).alloc hc1.out.2 _).trans hB2); obtain ⟨_, z2, _⟩ := later.out v2 hO4; clear hO4)
              | (at_builtin; refine wpList_append_str _ rfl (.tmp 128) (.tmp 132) rfl (w3.heap.size + 2) q2 d2 m2 (L0 ++ ss1[k].data.toList ++ [58]) rfl hm2.out hc2.out ss2[k] rfl lc.out ?_; intro q3 d3 m3 v3 hm3 hc3 hB3; clear z2; replace hm3 := hid hm3; replace hc3 := hid hc3; replace hB3 := hid hB3)
              | (at_builtin; refine wpList_append_str _ rfl (.tmp 134) (.const (.string ⟨#[10]⟩)) rfl (w3.heap.size + 2) q3 d3 m3 (L0 ++ ss1[k].data.toList ++ [58] ++ ss2[k].data.toList) rfl hm3.out hc3.out ⟨#[10]⟩ rfl ld.out ?_; intro q4 d4 m4 v4 hm4 hc4 hB4; have hB5 := hB1.out.trans (hB2.out.trans (hB3.out.trans hB4)); have hre := HRE.out.below hB5 (by omega); have hfe := hre.frozen k; obtain ⟨ve, hce⟩ := hre.cellEx (j := k) (by rw [hL.out.se]; exact hlt); clear hre; replace hm4 := hid hm4; replace hc4 := hid hc4; replace hB5 := hid hB5; clear hB1 hB2 hB3 hB4))
            have hl4 : upTo u bs ss1 ss2 (k + 1) = L0 ++ ss1[k].data.toList ++ [58] ++ ss2[k].data.toList ++ ({ data := #[10] } : ByteArray).data.toList := by
              rw [HSTEP.out, ← HL0.out]
              simp [piece]
            refine ⟨⟨k + 1, q4, d4, m4, _, _, by omega, by go_num, rfl, by rw [hl4]; exact hm4.out, Lines.next hL.out hlt (by rw [← hm.out]) (by rw [hl4, ← hm4.out]) (hB'.out.trans hB5.out) (by rw [hl4]; exact hc4.out)⟩, by simp [intOf]; omega⟩
      · have hkn : k = n1 := by omega
        subst hkn
        obtain ⟨T, HT⟩ : ∃ T, Hid ((⟨(upTo u bs ss1 ss2 k).toArray⟩ : ByteArray) = T) := ⟨_, hid rfl⟩
        have hcv : (convert 33 9 (.slice p m c)).run Try.prog wr = .ok (.string T) wr := by
          rw [← HT.out]; exact hL.out.buf.text hm.out
        have HTS : Hid (T.size ≤ maxLen) := by
          have h := upTo_length u bs ss1 ss2 (by rw [HN1.out, HN2.out])
          rw [HN1.out] at h
          have e : T.size = (upTo u bs ss1 ss2 k).length := by rw [← HT.out]; rfl
          show T.size ≤ maxLen
          rw [e]; unfold maxLen; omega
        go_wp2_with fail
        refine (newText_any u r T _ _ k k k ((List.range k).map fun j => ((upTo u bs ss1 ss2 j).length : Int)) ((List.range k).map fun j => ((upTo u bs ss1 ss2 (j + 1)).length : Int)) wr (by simp) (by simp) (by omega)
          (cells_of_ints hL.out.rs (fun j => (upTo u bs ss1 ss2 j).length) hL.out.st) (cells_of_ints hL.out.re (fun j => (upTo u bs ss1 ss2 (j + 1)).length) hL.out.en)).mono ?_
        rintro e w5 ⟨⟨P, g, arr, rfl, hP, hg, hsp, hgP, hwg⟩, hb5⟩
        have hW5 : Hid (Below w3.heap.size w3 w5) := hL.out.old.trans (hb5.mono hL.out.old.size)
        have hPw : Hid (w3.heap.size ≤ P) := by
          have := hL.out.old.size
          show w3.heap.size ≤ P
          omega
        replace hP := hid hP
        replace hg := hid hg
        replace hsp := hid hsp
        replace hgP := hid hgP
        clear hb5 hwg hL hm hcv
        go_upto_block 4 with fail
        go_cut [19] (fun v wx => v = .int .i64 (firstIdx r ss1 name) ∧ wx = w5)
        case first =>
          go_wp2_with fail
          go_loop [19, 20] (fun v i => ∃ j : Nat, j ≤ k ∧ i = .int .i64 j ∧ v = .int .i64 (-1) ∧ ∀ i' (hi' : i' < ss1.length), i' < j → sameB r ss1[i'] name = false) (fun _ i => k - (intOf i).toNat)
          case atStart => exact ⟨0, Nat.zero_le _, rfl, rfl, fun j _ h => absurd h (by omega)⟩
          case round =>
            obtain ⟨j, hj, rfl, rfl, hno⟩ := hrel
            have HO : Hid (∀ i' (hi' : i' < ss1.length), i' < j → sameB r ss1[i'] name = false) := hno
            clear hno
            by_cases hlt2 : j < k
            · have hjl : j < ss1.length := by rw [HN1.out]; exact hlt2
              obtain ⟨b1, o1, rfl, hx1⟩ := hd1'.out j (by simpa using hjl)
              simp only [List.getElem_map] at hx1
              replace hx1 := cell_later hW5.out hx1
              have hsz := HS1.out ss1[j] (List.getElem_mem hjl)
              cases hsame : sameB r ss1[j] name with
              | true =>
                go_wp2_with (go_at_call 34; refine keep (zzSame_any _ _ _ _ hsz hs) ?_; rintro e rfl)
                go_meet
                case rel => exact ⟨by rw [firstIdx_hit hjl hsame HO.out], rfl⟩
              | false =>
                go_wp2_with (go_at_call 34; refine keep (zzSame_any _ _ _ _ hsz hs) ?_; rintro e rfl)
                go_round
                case rel =>
                  refine ⟨j + 1, by omega, by go_num, rfl, fun i' hi' hij => ?_⟩
                  by_cases e : i' = j
                  · subst e; exact hsame
                  · exact HO.out i' hi' (by omega)
                case measure => simp [intOf]; omega
            · go_wp2_with fail
              go_meet
              case rel => exact ⟨by rw [firstIdx_miss fun i' hi' => HO.out i' hi' (by have := HN1.out; omega)], rfl⟩
        case rest =>
          obtain ⟨rfl, rfl⟩ := hcut
          have KB := zzField_build P g k u r T arr (fun j => (upTo u bs ss1 ss2 j).length) (fun j => (upTo u bs ss1 ss2 (j + 1)).length) ss1 name wc HN1.out (by omega) HS1.out hs HTS.out hP.out hg.out hgP.out
            (fun j hj => by
              have h := hsp.out.2 j (by simpa using hj) (by simpa using hj) hj
              simp only [List.getElem_map, List.getElem_range] at h
              refine ⟨h.1, h.2, upTo_le u bs ss1 ss2 (Nat.le_succ j), ?_⟩
              rw [← HT.out]
              exact upTo_le u bs ss1 ss2 (show j + 1 ≤ k from hj))
            (fun j hj => by
              rw [← HT.out, upTo_extract u bs ss1 ss2 (show j < k by rw [← HN1.out]; exact hj)]
              have e : ss1.getD j ⟨#[]⟩ = ss1[j] := by simp [List.getD, List.getElem?_eq_getElem hj]
              unfold pieceAt
              rw [e]
              exact spelt_piece _ _ _ _ (HO'.out j hj))
          generalize hwant : firstIdx r ss1 name = want at KB ⊢
          replace KB := hid KB
          have HWANT : Hid (firstIdx r ss1 name = want) := hwant
          clear hwant
          go_wp2_with fail
          refine Calls.mono KB.out ?_
          rintro e w6 ⟨rfl, hb6, f, farr, hP6, hf6, hF6⟩
          have hW6 : Hid (Below w3.heap.size w3 w6) := hW5.out.trans (hb6.mono hPw.out)
          replace hP6 := hid hP6
          replace hf6 := hid hf6
          replace hF6 := hid hF6
          clear hb6 hW5 hP hg hsp hgP KB
          go_wp2_with fail
          have KS := zzField_search P f k u r T _ farr ss1 name w6 HN1.out (by omega) HS1.out hs hP6.out hf6.out hF6.out
          rw [HWANT.out] at KS
          refine Calls.mono KS ?_
          clear KS
          rintro e w7 ⟨rfl, hb7⟩
          replace hb7 := hid hb7
          go_wp2_with fail
          go_loopw [21] (fun i wx => ∃ j : Nat, j ≤ k ∧ i = .int .i64 j ∧ Below w6.heap.size w6 wx) (fun i _ => k - (intOf i).toNat)
          case atStart => exact ⟨0, Nat.zero_le _, rfl, hb7.out⟩
          case round =>
            obtain ⟨j, hj, rfl, hbx⟩ := hrel
            have hPx : Hid _ := hP6.out.below hbx hP6.out.lt
            have hfx : Hid _ := hf6.out.below hbx hf6.out.lt
            replace hbx := hid hbx
            clear hb7
            by_cases hlt2 : j < k
            · have hjl : j < ss1.length := by rw [HN1.out]; exact hlt2
              obtain ⟨i, hi, hij, hfi, hsi, hnoi⟩ := firstIdx_own (r := r) hjl
              obtain ⟨b1, o1, rfl, hx1⟩ := hd1'.out j (by simpa using hjl)
              obtain ⟨b1', o1', hb1e, hx2⟩ := hd1'.out i (by simpa using hi)
              obtain ⟨rfl, rfl⟩ : b1 = b1' ∧ o1 = o1' := by simpa using hb1e
              simp only [List.getElem_map] at hx1 hx2
              have hszj := HS1.out ss1[j] (List.getElem_mem hjl)
              have hszi := HS1.out ss1[i] (List.getElem_mem hi)
              have y1 := cell_later (hW6.out.trans (hbx.out.mono hW6.out.size)) hx1
              replace hx1 := hid hx1
              replace hx2 := hid hx2
              replace hnoi := hid hnoi
              have HSI : Hid (sameB r ss1[i] ss1[j] = true) := hsi
              clear hsi
              have KF := zzField_search P f k u r T _ farr ss1 ss1[j] wr HN1.out (by omega) HS1.out hszj hPx.out hfx.out hF6.out
              rw [hfi] at KF
              replace KF := hid KF
              replace hfi := hid hfi
              have hlt2i : (j : Int) < (k : Int) := by omega
              have hik : (i : Int) < (k : Int) := by omega
              have hi0 : decide ((i : Int) < 0) = false := decide_eq_false (by omega)
              have hij0 : decide ((j : Int) < (i : Int)) = false := decide_eq_false (by omega)
              have hij1 : decide (j < i) = false := decide_eq_false (by omega)
              have hiji : (i : Int) ≤ (j : Int) := by omega
              go_wp2_with (go_at_call 35; refine Calls.mono KF.out ?_; rintro e w8 ⟨rfl, hb8⟩; clear y1; have hW8 := hW6.out.trans ((hbx.out.trans (hb8.mono hbx.out.size)).mono hW6.out.size); have y1 := cell_later hW8 hx1.out; have y2 := cell_later hW8 hx2.out; replace hb8 := hid hb8; replace hW8 := hid hW8)
              go_quiet ((go_at_call 34; exact Calls.quiet_of_same (zzSame_is _ _ _ true HSI.out _ hszi hszj)))
              clear y1 y2 hi0 hij0
              go_wp2_with fail
              go_loopw [23] (fun i' wx => ∃ l : Nat, l ≤ i ∧ i' = .int .i64 l ∧ Below w8.heap.size w8 wx) (fun i' _ => i - (intOf i').toNat)
              case atStart => exact ⟨0, Nat.zero_le _, rfl, below_drewN (Below.refl _ _) _⟩
              case round =>
                obtain ⟨l, hl, rfl, hby⟩ := hrel
                have hWy := hW8.out.trans (hby.mono hW8.out.size)
                replace hby := hid hby
                by_cases hlt3 : l < i
                · have hll : l < ss1.length := by omega
                  obtain ⟨b1', o1', hb1e, hx3⟩ := hd1'.out l (by simpa using hll)
                  obtain ⟨rfl, rfl⟩ : b1 = b1' ∧ o1 = o1' := by simpa using hb1e
                  simp only [List.getElem_map] at hx3
                  have hszl := HS1.out ss1[l] (List.getElem_mem hll)
                  have y1 := cell_later hWy hx1.out
                  have y3 := cell_later hWy hx3
                  have hsl : Hid (sameB r ss1[l] ss1[j] = false) := hnoi.out l hll hlt3
                  have hli : (l : Int) < (k : Int) := by omega
                  clear hx3
                  replace hWy := hid hWy
                  go_wp2_with fail
                  go_quiet ((go_at_call 34; exact Calls.quiet_of_same (zzSame_is _ _ _ false hsl.out _ hszl hszj)))
                  go_wp2_with fail
                  go_roundw
                  case rel => exact ⟨l + 1, by omega, by go_num, below_drewN hby.out _⟩
                  case measure => simp [intOf]; omega
                · replace hWy := hid hWy
                  go_wp2_with fail
                  go_roundw
                  case rel => exact ⟨j + 1, by omega, by go_num, hbx.out.trans ((hb8.out.trans (hby.out.mono hb8.out.size)).mono hbx.out.size)⟩
                  case measure => simp [intOf]; omega
            · go_wp2_with fail
              go_ret
              exact ⟨rfl, HW3.out.trans ((hW6.out.mono HW3.out.size).trans (hbx.out.mono (Nat.le_trans HW3.out.size hW6.out.size)))⟩

end Go.Proofs.Qxb6001690a
