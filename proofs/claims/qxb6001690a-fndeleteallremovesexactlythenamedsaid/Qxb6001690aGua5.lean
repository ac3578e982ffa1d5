import Derived.Test.Qxb6001690aKpt
namespace Go.Proofs.Qxb6001690a
open Go.RowKit
set_option linter.unusedVariables false
set_option linter.unusedSimpArgs false

set_option maxHeartbeats 2000000 in
theorem zzBytes61_any (a1 a2 a3 : Option Addr) (n1 n2 n3 c1 c2 c3 : Nat) (ss1 ss2 : List ByteArray) (r k f : Value) (s : ByteArray) (w : World) (hn1 : ss1.length = n1) (hn2 : ss2.length = n2)
    (hm1 : n1 ≤ maxLen) (hm2 : n2 ≤ maxLen) (hm3 : n3 ≤ maxLen) (hs : s.size ≤ maxLen) (hs1 : ∀ s ∈ ss1, s.size ≤ maxLen) (hs2 : ∀ s ∈ ss2, s.size ≤ maxLen)
    (hc1 : CellsAt w a1 (ss1.map .string)) (hc2 : CellsAt w a2 (ss2.map .string)) :
    Calls Try.prog 61 #[.slice a1 n1 c1, .slice a2 n2 c2, r, k, f, .slice a3 n3 c3, .string s] w fun e w' => RetBool e ∧ w' = w := by
  have HN1 : Hid (ss1.length = n1) := hn1
  have HS1 : Hid (∀ s ∈ ss1, s.size ≤ maxLen) := hs1
  have HC1 : Hid (CellsAt w a1 (ss1.map .string)) := hc1
  clear hn1 hs1 hc1
  have HN2 : Hid (ss2.length = n2) := hn2
  have HS2 : Hid (∀ s ∈ ss2, s.size ≤ maxLen) := hs2
  have HC2 : Hid (CellsAt w a2 (ss2.map .string)) := hc2
  clear hn2 hs2 hc2
  unfold maxLen at hm1 hm2 hm3 hs
  go_enter Try.func61, Try.ntmps61
  by_cases hL1 : 1048576 < (n1 : Int)
  · go_wp2
    go_ret
    exact ⟨RetBool.mk rfl, rfl⟩
  go_wp2
  go_loop [15, 16] (fun t i => ∃ (k : Nat) (z : Int), k ≤ n1 ∧ i = .int .i64 k ∧ t = .int .i64 z ∧ 0 ≤ z ∧ z ≤ 1048576) (fun _ i => n1 - (intOf i).toNat)
  case atStart => exact ⟨0, _, Nat.zero_le _, rfl, rfl, by omega, by omega⟩
  case round =>
    obtain ⟨k1, z1, hk1, rfl, rfl, hz0, hz1⟩ := hrel
    by_cases hlt1 : k1 < n1
    · have hkl : k1 < ss1.length := by rw [HN1.out]; exact hlt1
      obtain ⟨b, off, rfl, hcell⟩ := HC1.out k1 (by simpa using hkl)
      simp only [List.getElem_map] at hcell
      have hsz := HS1.out ss1[k1] (List.getElem_mem hkl)
      unfold maxLen at hsz
      by_cases h1 : 1048576 < (ss1[k1].size : Int)
      · go_wp2
        go_ret
        exact ⟨RetBool.mk rfl, rfl⟩
      by_cases h2 : 1048576 < z1 + (ss1[k1].size : Int)
      · go_wp2
        go_ret
        exact ⟨RetBool.mk rfl, rfl⟩
      go_wp2
      go_round
      case rel => exact ⟨k1 + 1, _, by omega, by go_num, rfl, by omega, by omega⟩
      case measure => simp [intOf]; omega
    · by_cases hL2 : 1048576 < (n2 : Int)
      · go_wp2
        go_ret
        exact ⟨RetBool.mk rfl, rfl⟩
      by_cases hZ2 : 1048576 < z1 + (n2 : Int)
      · go_wp2
        go_ret
        exact ⟨RetBool.mk rfl, rfl⟩
      go_wp2
      go_loop [15, 17] (fun t i => ∃ (k : Nat) (z : Int), k ≤ n2 ∧ i = .int .i64 k ∧ t = .int .i64 z ∧ 0 ≤ z ∧ z ≤ 1048576) (fun _ i => n2 - (intOf i).toNat)
      case atStart => exact ⟨0, _, Nat.zero_le _, rfl, rfl, by omega, by omega⟩
      case round =>
        obtain ⟨k2, z2, hk2, rfl, rfl, hz0, hz1⟩ := hrel
        by_cases hlt2 : k2 < n2
        · have hkl : k2 < ss2.length := by rw [HN2.out]; exact hlt2
          obtain ⟨b, off, rfl, hcell⟩ := HC2.out k2 (by simpa using hkl)
          simp only [List.getElem_map] at hcell
          have hsz := HS2.out ss2[k2] (List.getElem_mem hkl)
          unfold maxLen at hsz
          by_cases h1 : 1048576 < (ss2[k2].size : Int)
          · go_wp2
            go_ret
            exact ⟨RetBool.mk rfl, rfl⟩
          by_cases h2 : 1048576 < z2 + (ss2[k2].size : Int)
          · go_wp2
            go_ret
            exact ⟨RetBool.mk rfl, rfl⟩
          go_wp2
          go_round
          case rel => exact ⟨k2 + 1, _, by omega, by go_num, rfl, by omega, by omega⟩
          case measure => simp [intOf]; omega
        · by_cases hL3 : 1048576 < (n3 : Int)
          · go_wp2
            go_ret
            exact ⟨RetBool.mk rfl, rfl⟩
          by_cases hZ3 : 1048576 < z2 + (n3 : Int)
          · go_wp2
            go_ret
            exact ⟨RetBool.mk rfl, rfl⟩
          by_cases hL4 : 1048576 < (s.size : Int)
          · go_wp2
            go_ret
            exact ⟨RetBool.mk rfl, rfl⟩
          by_cases hZ4 : 1048576 < (z2 + (n3 : Int)) + (s.size : Int)
          · go_wp2
            go_ret
            exact ⟨RetBool.mk rfl, rfl⟩
          go_wp2
          go_ret
          exact ⟨RetBool.mk rfl, rfl⟩

set_option maxHeartbeats 8000000 in
set_option maxRecDepth 100000 in
/-- zzPutUvarint: the varint behind what the buffer holds (after the shelf's walk of binary.AppendUvarint, whose text it is). -/
theorem putUv_own (B n x : Nat) (hx : x < 18446744073709551616) (sv : Value) (xs : List Value) (w : World) (hown : w.ownsRow B 5 1 sv n xs) (hBw : B ≤ w.heap.size) (hlim : n + 10 ≤ 1099511627776) :
    Calls Try.prog 62 #[sv, .int .u64 x] w fun e w' => ∃ v', e = .returned v' ∧ w'.ownsRow B 5 1 v' (n + (Lib.uvarint x).length) (xs ++ Lib.byteCells (Lib.uvarint x)) ∧ Below B w w' := by
  obtain ⟨i0, hi, hz0, hz1, hz2⟩ := info_parts Try.info5
  have hlen := Lib.uvarint_length64 hx
  go_enter Try.func62, Try.ntmps62
  go_wp2
  go_loopw [0, 1] (fun vb vx wr => ∃ (y : Nat) (pre : List UInt8), vx = .int .u64 y ∧ y ≤ x ∧ Lib.uvarint x = pre ++ Lib.uvarint y ∧ wr.ownsRow B 5 1 vb (n + pre.length) (xs ++ Lib.byteCells pre) ∧ Below B w wr)
    (fun _ vx _ => (intOf vx).toNat)
  case atStart => exact ⟨x, [], rfl, Nat.le_refl _, rfl, by simpa [Lib.byteCells] using hown, Below.refl _ _⟩
  case round =>
    obtain ⟨y, pre, rfl, hy, hsplit, hown1, hnx⟩ := hrel
    have hpl : pre.length + (Lib.uvarint y).length ≤ 10 := by
      have h2 := congrArg List.length hsplit
      rw [List.length_append] at h2
      omega
    have hyp := Lib.uvarint_pos y
    by_cases h128 : 128 ≤ y
    · have hor : bits .or .u8 ((y : Int) % 256) 128 = ((y % 128 + 128 : Nat) : Int) := by
        rw [Lib.u8_or128_any _ (by omega) (by omega)]
        omega
      go_wp2_with (at_builtin; refine wpList_append_own _ rfl _ _ 33 rfl B 5 i0 (.int .u8 0) 1 1 Try.underlying33 hi hz0 hz1 hz2 rfl (by decide) _ _ _ rfl (hown1.alloc _) ⟨wr.heap.size, 0, none⟩ 1 1 [Value.int .u8 ((y % 128 + 128 : Nat) : Int)] rfl rfl ?c1 ?c2 ?c3 ?c4 ?c5 ?_)
      case c1 =>
        intro j u hj
        match j, hj with
        | 0, hj => simp at hj; subst hj; simp [Addr.add]
      case c2 => intro u hu; simp at hu; subst hu; rfl
      case c3 => unfold maxLen; omega
      case c4 => omega
      case c5 => have := hnx.size; simp; omega
      intro v' w1 hown' hgrow _
      have hnx1 : Below B w w1 := (hnx.alloc (by have := hnx.size; omega) _).grown hgrow (by have := hnx.size; simp; omega) (fun k hk => (hown1.lt k hk).1)
      go_wp2
      go_roundw
      case rel =>
        refine ⟨y / 128, pre ++ [(y % 128 + 128).toUInt8], by go_num, by omega, by rw [hsplit, Lib.uvarint_big h128]; simp, ?_, hnx1⟩
        have ec : ((y % 128 + 128 : Nat) : Int) = (y : Int) % 128 + 128 := by omega
        rw [Lib.byteCells_snoc pre (by omega), List.length_append, List.length_singleton, ← Nat.add_assoc, ec]
        exact hown'
      case measure => simp [intOf]; omega
    · have hsm : Lib.uvarint y = [y.toUInt8] := Lib.uvarint_small (by omega)
      go_wp2_with (at_builtin; refine wpList_append_own _ rfl _ _ 33 rfl B 5 i0 (.int .u8 0) 1 1 Try.underlying33 hi hz0 hz1 hz2 rfl (by decide) _ _ _ rfl (hown1.alloc _) ⟨wr.heap.size, 0, none⟩ 1 1 [Value.int .u8 (y : Int)] rfl rfl ?c1 ?c2 ?c3 ?c4 ?c5 ?_)
      case c1 =>
        intro j u hj
        match j, hj with
        | 0, hj => simp at hj; subst hj; simp [Addr.add]
      case c2 => intro u hu; simp at hu; subst hu; rfl
      case c3 => unfold maxLen; omega
      case c4 => omega
      case c5 => have := hnx.size; simp; omega
      intro v' w1 hown' hgrow _
      have hnx1 : Below B w w1 := (hnx.alloc (by have := hnx.size; omega) _).grown hgrow (by have := hnx.size; simp; omega) (fun k hk => (hown1.lt k hk).1)
      go_wp2
      go_ret
      refine ⟨v', rfl, ?_, hnx1⟩
      rw [hsplit, hsm, Lib.byteCells_snoc pre (by omega), List.length_append, List.length_singleton, ← Nat.add_assoc]
      exact hown'

theorem putUv (B : Nat) (p : Option Addr) (c m x : Nat) (l : List UInt8) (w : World) (hx : x < 18446744073709551616) (hm : m = l.length) (hb : BufAt w B p c l) (hlim : l.length ≤ 1048576) :
    Calls Try.prog 62 #[.slice p m c, .int .u64 (x : Int)] w fun e w' => ∃ p' c' m', e = .returned (.slice p' m' c') ∧ m' = (l ++ Lib.uvarint x).length ∧ BufAt w' B p' c' (l ++ Lib.uvarint x) ∧ Below B w w' := by
  subst hm
  refine (putUv_own B l.length x hx _ (Lib.byteCells l) w hb.1 hb.2 (by omega)).mono ?_
  rintro e w' ⟨v', rfl, h1, h2⟩
  obtain ⟨a, c', rfl⟩ := slice_of_owns h1
  refine ⟨a, c', _, rfl, by simp, ⟨?_, ?_⟩, h2⟩
  · rw [Lib.byteCells_append]
    simpa using h1
  · have := h2.size
    have := hb.2
    omega

end Go.Proofs.Qxb6001690a
