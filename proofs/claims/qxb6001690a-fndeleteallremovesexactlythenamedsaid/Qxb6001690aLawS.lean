import Derived.Test.Qxb6001690aGua3
import Derived.Deep.DeepCutAuto
import Derived.Deep.LoopGhost
import Derived.Deep.CutBlock
import Derived.Deep.RegionWith
namespace Go.Proofs.Qxb6001690a
open Go.RowKit
set_option linter.unusedVariables false
set_option linter.unusedSimpArgs false

theorem Try.info57 : (Try.prog.info? 57).map (fun i => (i.zero, i.size, i.bytes)) = some (some (.agg #[.string ⟨#[]⟩, .string ⟨#[]⟩]), 2, 32) := by kernel_rfl

/-- A region that draws its order and whose operations only read, in a class of worlds; its callees may make memory so long as they stay in the class. -/
theorem wp_region_later {P : Program} {id : Nat} {Q : Exit → Act → World → Prop} {a : Act} {w : World} {l : List Oper} {I : Type} (F : I → World) (hB0 : ∃ i, w.drew = F i) (hm : P.follows .mixedOrders = true) (hlex : Region.lexB .any l.toArray = true)
    (h : wpQuiet P l.toArray (fun w' => ∃ i, w' = F i) (fun a' => ∀ w', (∃ i, w' = F i) → Q .normal a' w') l a) : (Code.region id l.toArray true).wp P Q a w :=
  wp_region_quiet (C := fun w' => ∃ i, w' = F i) hm hlex hB0 (by simpa using h)
theorem class_of (B : World → Prop) (hne : ∃ w, B w) : ∃ (I : Type) (_ : Nonempty I) (F : I → World), (∀ i, B (F i)) ∧ ∀ wx, B wx → ∃ i, wx = F i :=
  ⟨{wx // B wx}, hne.elim fun w h => ⟨⟨w, h⟩⟩, Subtype.val, fun x => x.2, fun wx h => ⟨⟨wx, h⟩, rfl⟩⟩

/-- Cells that lay in the first world lie in a later one. -/
theorem cells_upto {w w' : World} {a : Option Addr} {vs : List Value} (h : CellsAt w a vs) (hb : Below w.heap.size w w') : CellsAt w' a vs := h.below hb

theorem newStanza2_any (F : Value) (a : Option Addr) (n c : Nat) (hF : F = .slice a n c) (w : World) :
    Calls Try.prog 76 #[F] w fun e w' => (∃ p, e = .returned (.pointer (some ⟨p, 0, none⟩)) ∧ RowAt w' p 65 (stanzaCells F 0 ⟨#[]⟩) ∧ p = w.heap.size) ∧ Below w.heap.size w w' := by
  subst hF
  go_enter Try.func76, Try.ntmps76
  go_wp2
  go_ret
  exact ⟨⟨_, rfl, RowAt.new _ _ _, rfl⟩, (Below.refl _ _).alloc (Nat.le_refl _) _⟩

set_option maxRecDepth 100000 in
set_option maxHeartbeats 4000000 in
theorem lawS (a1 a2 : Option Addr) (n1 n2 c1 c2 : Nat) (ss1 : List ByteArray) (xs : List Int) (first : Int) (ok : Bool) (w : World)
    (hn1 : ss1.length = n1) (hn2 : xs.length = n2) (hm1 : n1 ≤ maxLen) (hm2 : n2 ≤ maxLen) (hs1 : ∀ s ∈ ss1, s.size ≤ maxLen) (hx2 : ∀ x ∈ xs, (Lit.int .i64 x).wf = true) (hfw : (Lit.int .i64 first).wf = true)
    (hc1 : CellsAt w a1 (ss1.map .string)) (hc2 : CellsAt w a2 (xs.map (.int .i64))) (ha1 : a1 = none → n1 = 0) (ha2 : a2 = none → n2 = 0) :
    Calls Try.prog 13 #[.slice a1 n1 c1, .int .i64 first, .slice a2 n2 c2, .bool ok] w fun e w' => e = .returned (.bool true) ∧ Below w.heap.size w w' := by
  have K74 := hid (zzBytes74_any a1 a2 n1 n2 c1 c2 ss1 (.int .i64 first) (.bool ok) w hn1 hm1 hm2 hs1 hc1)
  by_cases hbig : n1 + total ss1 + n2 ≤ 1048576
  case neg =>
    replace hbig := hid hbig
    clear hn1 hn2 hm1 hm2 hs1 hx2 hfw hc1 hc2 ha1 ha2
    go_enter Try.func13, Try.ntmps13
    go_wp2_with fail
    refine keepW K74.out ?_
    rintro e ⟨b, rfl, hb⟩
    cases b with
    | true => exact absurd (hb rfl) hbig.out
    | false =>
      go_wp2_with fail
      go_ret
      exact ⟨rfl, Below.refl _ _⟩
  case pos =>
  have K44 := hid (strsBytes2_any a1 n1 c1 ss1 w hn1 (by omega) hc1)
  have hcap : (16 * n1 + total ss1 : Nat) ≤ 17825792 := by omega
  generalize htot : (16 * n1 + total ss1 : Nat) = tot at K44 hcap
  replace htot := hid htot
  have htoti : (tot : Int) ≤ 17825792 := by omega
  have hn2i : (n2 : Int) ≤ 1048576 := by omega
  have hn1i : (n1 : Int) ≤ 1048576 := by omega
  replace hbig := hid hbig
  replace hs1 := hid hs1
  replace hx2 := hid hx2
  replace hc1 := hid hc1
  replace hc2 := hid hc2
  replace ha1 := hid ha1
  replace ha2 := hid ha2
  replace hn1 := hid hn1
  replace hn2 := hid hn2
  replace hfw := hid hfw
  clear hm1 hm2 hcap
  by_cases hsum : 1048576 < (tot : Int) + 8 * (n2 : Int)
  · go_enter Try.func13, Try.ntmps13
    go_wp2_with fail
    refine keepW K74.out ?_
    rintro e ⟨b, rfl, hb⟩
    clear hb
    cases b with
    | false =>
      go_wp2_with fail
      go_ret
      exact ⟨rfl, Below.refl _ _⟩
    | true =>
      go_wp2_with fail
      refine keepW K44.out ?_
      rintro e rfl
      go_wp2_with fail
      go_ret
      exact ⟨rfl, Below.refl _ _⟩
  by_cases hlen : n1 = n2
  case neg =>
    have hle : (n1 : Int) ≠ (n2 : Int) := by omega
    have hlb : ((n1 : Int) == (n2 : Int)) = false := by simp; omega
    clear hlen
    go_enter Try.func13, Try.ntmps13
    go_wp2_with fail
    refine keepW K74.out ?_
    rintro e ⟨b, rfl, hb⟩
    clear hb
    cases b with
    | false =>
      go_wp2_with fail
      go_ret
      exact ⟨rfl, Below.refl _ _⟩
    | true =>
      go_wp2_with fail
      refine keepW K44.out ?_
      rintro e rfl
      go_wp2_with fail
      go_ret
      exact ⟨rfl, Below.refl _ _⟩
  case pos =>
  subst hlen
  have hmk := run_make_any (P := Try.prog) 53 57 _ 2 32 (by exact Try.underlying53) Try.info57 .i64 .i64 n1 (by omega) (by omega)
  go_enter Try.func13, Try.ntmps13
  go_wp2_with fail
  refine keepW K74.out ?_
  rintro e ⟨b, rfl, hb⟩
  clear hb
  cases b with
  | false =>
    go_wp2_with fail
    go_ret
    exact ⟨rfl, Below.refl _ _⟩
  | true =>
  go_wp2_with fail
  refine keepW K44.out ?_
  rintro e rfl
  go_wp2_with fail
  refine (cloneStrs2_any a1 n1 c1 ss1 w hn1.out (by omega) ha1.out hc1.out).mono ?_
  rintro e w1 ⟨⟨p1, rfl, hp1, hd1⟩, hb1⟩
  replace hd1 := hid hd1
  replace hb1 := hid hb1
  clear hp1
  go_wp2_with fail
  refine (cloneInts2_any a2 n1 c2 xs w1 hn2.out (by omega) ha2.out (hc2.out.below hb1.out)).mono ?_
  rintro e w2 ⟨⟨p2, rfl, hp2, hd2⟩, hb2⟩
  have hd1' : Hid (CellsAt w2 p1 (ss1.map .string)) := hd1.out.below hb2
  replace hd2 := hid hd2
  have hW2 : Hid (Below w.heap.size w w2) := hb1.out.trans (hb2.mono hb1.out.size)
  clear hd1 hb1 hb2 hp2 hc1 hc2 ha1 ha2 K74 K44
  clear hsum
  go_wp2_with fail
  clear hmk
  go_loopw [10] (fun i wr => ∃ k : Nat, k ≤ n1 ∧ i = .int .i64 k ∧ (∃ arr, RowAt wr w2.heap.size 57 arr ∧ arr.size = n1 * 2) ∧ Below w2.heap.size w2 wr) (fun i _ => n1 - (intOf i).toNat)
  case atStart => exact ⟨0, Nat.zero_le _, rfl, ⟨_, RowAt.new _ _ _, size_madeCells _ _⟩, (Below.refl _ _).alloc (Nat.le_refl _) _⟩
  case round =>
    obtain ⟨k, hk, rfl, ⟨arr, hrow, hsz⟩, hb⟩ := hrel
    by_cases hlt : k < n1
    · have hkl : k < ss1.length := by rw [hn1.out]; exact hlt
      obtain ⟨b1, o1, rfl, hx1⟩ := hd1'.out k (by simpa using hkl)
      simp only [List.getElem_map] at hx1
      replace hx1 := cell_later hb hx1
      have hf0 := hrow.frozen (k * 2)
      have hf1 := hrow.frozen (k * 2 + 1)
      obtain ⟨v0, hv0⟩ := hrow.cellEx (j := k * 2) (by omega)
      obtain ⟨v1, hv1⟩ := hrow.cellEx (j := k * 2 + 1) (by omega)
      replace hrow := hid hrow
      replace hb := hid hb
      replace hsz := hid hsz
      have hlti : (k : Int) < (n1 : Int) := by omega
      go_wp2
      go_roundw
      case rel => exact ⟨k + 1, by omega, by go_num, ⟨_, (hrow.out.set _ _).set _ _, by simpa using hsz.out⟩, (hb.out.setCell (p := ⟨w2.heap.size, k * 2, none⟩) (Nat.le_refl _) _).setCell (p := ⟨w2.heap.size, k * 2 + 1, none⟩) (Nat.le_refl _) _⟩
      case measure => simp [intOf]; omega
    replace hb := hid hb
    clear hrow hsz arr
    go_wp2_with fail
    refine (newStanza2_any _ _ _ _ rfl wr).mono ?_
    rintro e w3 ⟨⟨p, rfl, hp, hpe⟩, hb3⟩
    have hW3 : Hid (Below w2.heap.size w2 w3) := hb.out.trans (hb3.mono hb.out.size)
    have hpw : Hid (w2.heap.size ≤ p) := by have := hb.out.size; show w2.heap.size ≤ p; omega
    replace hp := hid hp
    clear hb3 hpe hb
    cases ok with
    | false =>
      go_wp2_with fail
      refine (zzSetLines_no p _ 0 ⟨#[]⟩ first _ w3 hp.out).mono ?_
      rintro e w4 ⟨rfl, hw4⟩
      have hp4 : RowAt w4 p 65 (stanzaCells (.slice (some ⟨w2.heap.size, 0, none⟩) n1 n1) 0 ⟨#[]⟩) := by rw [hw4]; exact hp.out.set 3 _
      have hW4 : Hid (Below w2.heap.size w2 w4) := by
        show Below w2.heap.size w2 w4
        rw [hw4]; exact hW3.out.setCell (p := ⟨p, 3, none⟩) hpw.out _
      clear hw4
      have KE := fun wx (hb : Below w4.heap.size w4 wx) => fieldLines_empty p _ 0 wx (hp4.below hb hp4.lt)
      have KF := zzFieldLines_of p w4 (fun a b c w' => a = .int .i64 0 ∧ b = .slice none 0 0 ∧ c = .bool false ∧ Below w4.heap.size w4 w') ((KE w4 (Below.refl _ _)).mono fun e w' ⟨he, hb⟩ => ⟨_, _, _, he, rfl, rfl, rfl, hb⟩)
      replace KE := hid KE
      replace KF := hid KF
      clear hp4 hp
      go_wp2_with fail
      refine Calls.mono KF.out ?_
      rintro e w5 ⟨x1, x2, x3, rfl, rfl, rfl, rfl, hb5⟩
      have KL := line_no p (-1) w5 (KE.out w5 hb5)
      replace KL := hid KL
      replace hb5 := hid hb5
      go_wp2_with (go_at_call 77; refine Calls.mono KL.out ?_; rintro e w6 ⟨rfl, hb6⟩; replace hb6 := hid (hb5.out.trans (hb6.mono hb5.out.size)))
      clear KL KF hlt hk
      rename_i k0 _
      go_loopw [15] (fun i wx => ∃ j : Nat, j ≤ n1 ∧ i = .int .i64 j ∧ Below w4.heap.size w4 wx) (fun i _ => n1 - (intOf i).toNat)
      case atStart => exact ⟨0, Nat.zero_le _, rfl, hb6.out⟩
      case round =>
        obtain ⟨j, hj, rfl, hbx⟩ := hrel
        by_cases hlt : j < n1
        · have KL := hid (line_no p (j : Int) wr (KE.out wr hbx))
          replace hbx := hid hbx
          go_wp2_with (go_at_call 77; refine Calls.mono KL.out ?_; rintro e w7 ⟨rfl, hb7⟩; replace hb7 := hid (hbx.out.trans (hb7.mono hbx.out.size)))
          go_roundw
          case rel => exact ⟨j + 1, by omega, by go_num, hb7.out⟩
          case measure => simp [intOf]; omega
        · replace hbx := hid hbx
          go_wp2_with fail
          go_ret
          exact ⟨rfl, hW2.out.trans ((hW4.out.trans (hbx.out.mono hW4.out.size)).mono hW2.out.size)⟩
    | true =>
      go_wp2_with fail
      refine (zzSetLines_yes p _ 0 ⟨#[]⟩ first p2 n1 n1 xs w3 hp.out hn2.out (by omega) (cells_upto hd2.out hW3.out)).mono ?_
      rintro e w4 ⟨rfl, hp4, hk4⟩
      have hW4 : Hid (Below w2.heap.size w2 w4) := hW3.out.trans (hk4.below (Nat.le_of_lt (Nat.lt_of_le_of_lt hpw.out hp.out.lt)) (fun k hk => by have := hpw.out; omega))
      have KE := fun wx (hb : Below w4.heap.size w4 wx) => fieldLines_ok p _ n1 n1 0 first xs wx hn2.out (by omega) hfw.out hx2.out (hp4.below hb hp4.lt)
      have KF := zzFieldLines_of p w4 (fun a b c w' => ∃ g, a = .int .i64 first ∧ b = .slice (some ⟨g, 0, none⟩) n1 n1 ∧ c = .bool true ∧ RowAt w' g 3 (xs.map (.int .i64)).toArray ∧ Below w4.heap.size w4 w')
        ((KE w4 (Below.refl _ _)).mono fun e w' ⟨⟨g, he, hrow, _⟩, hb⟩ => ⟨_, _, _, he, g, rfl, rfl, rfl, hrow, hb⟩)
      replace KE := hid KE
      replace KF := hid KF
      clear hp4 hp hk4
      go_wp2_with fail
      refine Calls.mono KF.out ?_
      rintro e w5 ⟨x1, x2, x3, rfl, g, rfl, rfl, rfl, hrow, hb5⟩
      have KL := hid (line_first p n1 first (-1) _ w5 (by omega) (KE.out w5 hb5))
      replace hrow := hid hrow
      replace hb5 := hid hb5
      have hfe : (first == first) = true := by simp
      go_wp2_with (go_at_call 77; refine Calls.mono KL.out ?_; rintro e w6 ⟨rfl, hb6⟩; replace hb6 := hid hb6)
      clear KL KF hlt hk hfe
      rename_i k0 _
      go_loopw [16] (fun i wx => ∃ j : Nat, j ≤ n1 ∧ i = .int .i64 j ∧ Below w5.heap.size w5 wx) (fun i _ => n1 - (intOf i).toNat)
      case atStart => exact ⟨0, Nat.zero_le _, rfl, hb6.out⟩
      case round =>
        obtain ⟨j, hj, rfl, hbx⟩ := hrel
        by_cases hlt : j < n1
        · have hjl : j < xs.length := by rw [hn2.out]; exact hlt
          obtain ⟨b2, o2, rfl, hx2c⟩ := hd2.out j (by simpa using hjl)
          simp only [List.getElem_map] at hx2c
          have later : Hid (∀ wx, Below wr.heap.size wr wx → wx.cell? ⟨g, j, none⟩ = some (.int .i64 xs[j]) ∧ wx.cell? ⟨b2, o2 + j, none⟩ = some (.int .i64 xs[j])) := by
            intro wx hb
            have h5 := hbx.trans (hb.mono hbx.size)
            refine ⟨((hrow.out.below h5 hrow.out.lt).cell j).trans (by simp [hjl]), ?_⟩
            exact cell_later (hW4.out.trans ((hb5.out.trans (h5.mono hb5.out.size)).mono hW4.out.size)) hx2c
          obtain ⟨I, hI, W, hWB, hWall⟩ := class_of (Below wr.heap.size wr) ⟨wr, Below.refl _ _⟩
          have KL : Hid (∀ i, Calls Try.prog 77 #[.pointer (some ⟨p, 0, none⟩), .int .i64 (j : Int)] (W i) fun e w'' => e = .returned (.int .i64 xs[j]) ∧ ∃ i', w'' = W i') := by
            intro i
            have hx := hWB i
            refine (line_at p n1 first xs j (W i) hn2.out hjl (by omega) (KE.out (W i) (hb5.out.trans ((hbx.trans (hx.mono hbx.size)).mono hb5.out.size)))).mono ?_
            rintro e w'' ⟨rfl, hb⟩
            exact ⟨rfl, hWall w'' (hx.trans (hb.mono hx.size))⟩
          have y1 : ∀ i, (W i).cell? ⟨g, j, none⟩ = some (.int .i64 xs[j]) := fun i => (later.out (W i) (hWB i)).1
          have y2 : ∀ i, (W i).cell? ⟨b2, o2 + j, none⟩ = some (.int .i64 xs[j]) := fun i => (later.out (W i) (hWB i)).2
          replace hWB := hid hWB
          replace hWall := hid hWall
          have hji : (j : Int) < (n1 : Int) := by omega
          replace hbx := hid hbx
          clear hx2c
          go_upto_region 31 with fail
          go_cut [140] (fun t wx => t = .bool false ∧ Below wr.heap.size wr wx)
          case first =>
            refine wp_region_later W (hWall.out _ (Below.refl _ _).drew) (by kernel_rfl) (by kernel_rfl) ?_
            repeat (go_big_quiet_step ((go_at_call 77; exact KL.out _)))
            refine wpQuiet_nil ?_
            rintro _ ⟨iq, rfl⟩
            go_wp2_with fail
            go_meet
            case rel => exact ⟨rfl, hWB.out iq⟩
          case rest =>
            obtain ⟨rfl, hbc⟩ := hcut
            replace hbc := hid hbc
            go_wp2_with fail
            go_roundw
            case rel => exact ⟨j + 1, by omega, by go_num, hbx.out.trans (hbc.out.mono hbx.out.size)⟩
            case measure => simp [intOf]; omega
        · replace hbx := hid hbx
          go_wp2_with fail
          go_ret
          exact ⟨rfl, hW2.out.trans ((hW4.out.trans ((hb5.out.trans (hbx.out.mono hb5.out.size)).mono hW4.out.size)).mono hW2.out.size)⟩

end Go.Proofs.Qxb6001690a
