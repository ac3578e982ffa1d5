import Derived.Test.Qxb6600888aStr
namespace Go.Proofs.Qxb6600888a
open Go.RowKit
set_option linter.unusedVariables false
set_option linter.unusedSimpArgs false

/-! The head of a name: its first eight bytes. -/
def sh (b : UInt8) (k : Nat) : Int := IntKind.u64.wrap ((b.toNat : Int) * 2 ^ (56 - 8 * k))
def hgo : Int → Nat → Str → Int
  | h, _, [] => h
  | h, k, b :: r => if b = 46 then h else if k < 8 then hgo (bits .or .u64 h (sh b k)) (k + 1) r else h
def hd (s : Str) : Int := hgo 0 0 s
theorem hgo_big {h : Int} {k : Nat} (hk : ¬ k < 8) (r : Str) : hgo h k r = h := by
  cases r with
  | nil => rfl
  | cons b r => unfold hgo; rw [if_neg hk]; split <;> rfl
theorem hgo_at {h : Int} {k : Nat} {s : Str} {b : UInt8} (hb : s[k]? = some b) : hgo h k (s.drop k) = if b = 46 then h else if k < 8 then hgo (bits .or .u64 h (sh b k)) (k + 1) (s.drop (k + 1)) else h := by
  obtain ⟨h1, e1⟩ := List.getElem?_eq_some_iff.1 hb
  rw [List.drop_eq_getElem_cons h1, e1]; rfl
theorem hgo_end {h : Int} {k : Nat} {s : Str} (hk : s.length ≤ k) : hgo h k (s.drop k) = h := by
  rw [List.drop_of_length_le hk]; rfl
theorem shift_sh (b : UInt8) (k : Nat) (hk : k < 8) (yk : IntKind) (q : Int) (hq : q = 56 - 8 * (k : Int)) : Op.shift .shl .u64 (b.toNat : Int) yk q = pure (.int .u64 (sh b k)) := by
  rw [shift_shl_any _ _ _ _ (by omega)]
  unfold sh
  have : min q.toNat IntKind.u64.bits = 56 - 8 * k := by
    have : IntKind.u64.bits = 64 := rfl
    omega
  rw [this]

set_option maxHeartbeats 1000000 in
theorem headOf_w (s : ByteArray) (w : World) (hs : s.size ≤ 1048576) :
    Calls Try.prog 18 #[.string s] w fun e w' => e = .returned (.int .u64 (hd (lst s))) ∧ w' = w := by
  go_enter Try.func18, Try.ntmps18
  go_wp2
  go_loop [3, 4] (fun v i => ∃ (k : Nat) (h : Int), k ≤ s.size ∧ k ≤ 8 ∧ v = .int .u64 h ∧ i = .int .i64 k ∧ hd (lst s) = hgo h k ((lst s).drop k)) (fun _ i => s.size - (intOf i).toNat)
  case atStart => exact ⟨0, 0, by omega, by omega, rfl, rfl, rfl⟩
  case round =>
    obtain ⟨k, h, hk, hk8, rfl, rfl, he⟩ := hrel
    replace he := hid he
    by_cases hlt : k < s.size
    · have hki : (k : Int) < (s.size : Int) := by omega
      have hk0 : (0 : Int) ≤ (k : Int) := by omega
      by_cases h8 : k < 8
      · have h8i : (k : Int) < 8 := by omega
        obtain ⟨b, hb⟩ : ∃ b : UInt8, s[k]'hlt = b := ⟨_, rfl⟩
        have hst := hgo_at (h := h) (k := k) (s := lst s) (b := b) (by rw [lst_get s k hlt, hb])
        rw [← he.out, if_pos h8] at hst
        cases h46 : ((b.toNat : Int) == 46) with
        | true =>
          rw [if_pos (is46 h46)] at hst
          replace hst := hid hst
          go_wp2
          go_ret
          exact ⟨by rw [hst.out]; rfl, rfl⟩
        | false =>
          rw [if_neg (not46 h46)] at hst
          obtain ⟨q, hq⟩ : ∃ q : Int, q = 56 - 8 * (k : Int) := ⟨_, rfl⟩
          have hsh := fun yk => shift_sh b k h8 yk q hq
          have hw1 : IntKind.i64.wrap (8 * (k : Int)) = 8 * (k : Int) := wrap_small _ (by omega) (by omega)
          have hw2 : IntKind.i64.wrap (56 - 8 * (k : Int)) = q := by rw [wrap_small _ (by omega) (by omega), hq]
          have hw3 : IntKind.u64.wrap q = q := by rw [IntKind.wrap_u64]; omega
          have hw4 : IntKind.i64.wrap ((k : Int) + 1) = (k : Int) + 1 := wrap_small _ (by omega) (by omega)
          have hwb : IntKind.u64.wrap (b.toNat : Int) = (b.toNat : Int) := by rw [IntKind.wrap_u64]; have := b.toNat_lt; omega
          have hq0 : 0 ≤ q := by omega
          clear hq
          generalize sh b k = sx at *
          generalize hh : bits .or .u64 h sx = h' at *
          replace hst := hid hst
          go_wp2
          go_round
          case rel => exact ⟨k + 1, h', by omega, by omega, rfl, by go_num, hst.out⟩
          case measure => simp [intOf]; omega
      · have h8i : ¬ (k : Int) < 8 := by omega
        have hst : hd (lst s) = h := he.out.trans (hgo_big h8 _)
        replace hst := hid hst
        go_wp2
        go_ret
        exact ⟨by rw [hst.out]; rfl, rfl⟩
    · have hst : hd (lst s) = h := he.out.trans (hgo_end (by rw [lst_len]; omega))
      replace hst := hid hst
      go_wp2
      go_ret
      exact ⟨by rw [hst.out]; rfl, rfl⟩

set_option maxHeartbeats 1000000 in
theorem firstHead_w (s : ByteArray) (w : World) (hs : s.size ≤ 1048576) :
    Calls Try.prog 26 #[.string s] w fun e w' => (∃ z : Int, e = .returned (.tuple #[.int .u64 (hd (lst s)), .int .i64 z])) ∧ w' = w := by
  go_enter Try.func26, Try.ntmps26
  go_wp2
  go_loop [4, 5, 8] (fun v _ i => ∃ (k : Nat) (h : Int), k ≤ s.size ∧ v = .int .u64 h ∧ i = .int .i64 k ∧ hd (lst s) = hgo h k ((lst s).drop k)) (fun _ _ i => s.size - (intOf i).toNat)
  case atStart => exact ⟨0, 0, by omega, rfl, rfl, rfl⟩
  case round =>
    obtain ⟨k, h, hk, rfl, rfl, he⟩ := hrel
    replace he := hid he
    by_cases hlt : k < s.size
    · have hki : (k : Int) < (s.size : Int) := by omega
      have hk0 : (0 : Int) ≤ (k : Int) := by omega
      obtain ⟨b, hb⟩ : ∃ b : UInt8, s[k]'hlt = b := ⟨_, rfl⟩
      have hst := hgo_at (h := h) (k := k) (s := lst s) (b := b) (by rw [lst_get s k hlt, hb])
      rw [← he.out] at hst
      have hw4 : IntKind.i64.wrap ((k : Int) + 1) = (k : Int) + 1 := wrap_small _ (by omega) (by omega)
      cases h46 : ((b.toNat : Int) == 46) with
      | true =>
        rw [if_pos (is46 h46)] at hst
        replace hst := hid hst
        go_wp2
        go_ret2
        exact ⟨⟨k, by rw [hst.out]; rfl⟩, rfl⟩
      | false =>
        rw [if_neg (not46 h46)] at hst
        by_cases h8 : k < 8
        · have h8i : (k : Int) < 8 := by omega
          rw [if_pos h8] at hst
          obtain ⟨q, hq⟩ : ∃ q : Int, q = 56 - 8 * (k : Int) := ⟨_, rfl⟩
          have hsh := fun yk => shift_sh b k h8 yk q hq
          have hw1 : IntKind.i64.wrap (8 * (k : Int)) = 8 * (k : Int) := wrap_small _ (by omega) (by omega)
          have hw2 : IntKind.i64.wrap (56 - 8 * (k : Int)) = q := by rw [wrap_small _ (by omega) (by omega), hq]
          have hwb : IntKind.u64.wrap (b.toNat : Int) = (b.toNat : Int) := by rw [IntKind.wrap_u64]; have := b.toNat_lt; omega
          have hq0 : 0 ≤ q := by omega
          clear hq
          generalize sh b k = sx at *
          generalize hh : bits .or .u64 h sx = h' at *
          replace hst := hid hst
          go_wp2
          go_round
          case rel => exact ⟨k + 1, h', by omega, rfl, by go_num, hst.out⟩
          case measure => simp [intOf]; omega
        · have h8i : ¬ (k : Int) < 8 := by omega
          rw [if_neg h8] at hst
          replace hst := hid hst
          go_wp2
          go_round
          case rel => exact ⟨k + 1, h, by omega, rfl, by go_num, by rw [hst.out, hgo_big (by omega)]⟩
          case measure => simp [intOf]; omega
    · have hst : hd (lst s) = h := he.out.trans (hgo_end (by rw [lst_len]; omega))
      replace hst := hid hst
      go_wp2
      go_ret2
      exact ⟨⟨-1, by rw [hst.out]; rfl⟩, rfl⟩

theorem fn_at {s : Str} {k : Nat} (hk : ∀ (j : Nat), j < k → s[j]? ≠ some (46 : UInt8)) : ∀ (b : Option UInt8), s[k]? = b → b = none ∨ b = some 46 → fn s = s.take k := by
  intro b hb hor
  have hsp : s = s.take k ++ s.drop k := (List.take_append_drop k s).symm
  have hnd : ∀ c ∈ s.take k, c ≠ (46 : UInt8) := by
    intro c hc e
    obtain ⟨j, hj, ej⟩ := List.getElem_of_mem hc
    rw [List.length_take] at hj
    refine hk j (by omega) ?_
    rw [List.getElem_take] at ej
    rw [List.getElem?_eq_getElem (by omega), ej, e]
  conv => lhs; rw [hsp]
  rw [fn_append hnd]
  have : fn (s.drop k) = [] := by
    rcases hor with rfl | rfl
    · have : s.drop k = [] := List.drop_of_length_le (by
        apply Classical.byContradiction
        intro h
        rw [List.getElem?_eq_getElem (by omega)] at hb; cases hb)
      rw [this]; rfl
    · obtain ⟨h1, e1⟩ := List.getElem?_eq_some_iff.1 hb
      rw [List.drop_eq_getElem_cons h1, e1]; rfl
  rw [this, List.append_nil]

theorem extract_bs (s : ByteArray) (a e : Nat) (h : e ≤ s.size) : s.extract a e = bs (((lst s).take e).drop a) := by
  apply ByteArray.ext
  rw [ByteArray.data_extract]
  apply Array.ext'
  rw [Array.toList_extract]
  show (lst s).extract a e = ((lst s).take e).drop a
  rw [List.extract, List.drop_take]

set_option maxHeartbeats 1000000 in
theorem firstName_w (s : ByteArray) (w : World) (hs : s.size ≤ 1048576) :
    Calls Try.prog 19 #[.string s] w fun e w' => e = .returned (.string (bs (fn (lst s)))) ∧ w' = w := by
  go_enter Try.func19, Try.ntmps19
  go_wp2
  go_loop [3] (fun i => ∃ (k : Nat), k ≤ s.size ∧ i = .int .i64 k ∧ ∀ (j : Nat), j < k → (lst s)[j]? ≠ some (46 : UInt8)) (fun i => s.size - (intOf i).toNat)
  case atStart => exact ⟨0, by omega, rfl, fun j h => absurd h (by omega)⟩
  case round =>
    obtain ⟨k, hk, rfl, he⟩ := hrel
    replace he := hid he
    by_cases hlt : k < s.size
    · have hki : (k : Int) < (s.size : Int) := by omega
      have hki' : (k : Int) ≤ (s.size : Int) := by omega
      have hk0 : (0 : Int) ≤ (k : Int) := by omega
      obtain ⟨b, hb⟩ : ∃ b : UInt8, s[k]'hlt = b := ⟨_, rfl⟩
      have gb := lst_get s k hlt
      rw [hb] at gb
      have hw4 : IntKind.i64.wrap ((k : Int) + 1) = (k : Int) + 1 := wrap_small _ (by omega) (by omega)
      cases h46 : ((b.toNat : Int) == 46) with
      | true =>
        have hf := fn_at he.out _ gb (Or.inr (by rw [is46 h46]))
        have hsl : ∀ w, (Instr.slice 9 (.string s) none (some (.int .i64 k)) none).run Try.prog w = .ok (.string (bs (fn (lst s)))) w := fun w => by
          rw [run_slice_string_h w 9 s Try.underlying9 .i64 k hk0 hki', extract_bs s 0 _ (by simpa using hk), hf]; rfl
        clear hf gb
        go_wp2
        go_ret
        exact ⟨rfl, rfl⟩
      | false =>
        replace gb := hid gb
        go_wp2
        go_round
        case rel =>
          refine ⟨k + 1, by omega, by go_num, fun j hj => ?_⟩
          by_cases e : j = k
          · subst e; rw [gb.out]; exact fun h => not46 h46 (Option.some.inj h)
          · exact he.out j (by omega)
        case measure => simp [intOf]; omega
    · have hf := fn_at he.out _ (lst_none s k hlt) (Or.inl rfl)
      rw [List.take_of_length_le (by rw [lst_len]; omega)] at hf
      replace hf := hid hf
      go_wp2
      go_ret
      exact ⟨by rw [hf.out]; rfl, rfl⟩

set_option maxHeartbeats 1000000 in
theorem ownOf_w (c a : Int) (w : World) :
    Calls Try.prog 20 #[.int .u32 c, .int .u32 a] w fun e w' => e = .returned (.int .u32 (if c = 2147483648 then a else c)) ∧ w' = w := by
  by_cases h : c = 2147483648
  · subst h
    go_enter Try.func20, Try.ntmps20
    go_wp2
    go_ret
    exact ⟨rfl, rfl⟩
  · have hb : (c == 2147483648) = false := beq_eq_false_iff_ne.2 h
    rw [if_neg h]
    go_enter Try.func20, Try.ntmps20
    go_wp2
    go_ret
    exact ⟨rfl, rfl⟩

end Go.Proofs.Qxb6600888a
