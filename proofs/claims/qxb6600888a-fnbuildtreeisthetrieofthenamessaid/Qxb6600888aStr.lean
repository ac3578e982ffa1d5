import Derived.Test.Qxb6600888aRows
import Derived.Test.Qxb6600888aShelf
import Derived.Test.Qxb6600888aTab
import Derived.WalkKit
import Derived.WalkSpells
import Derived.WalkLawsBesides
import Derived.Deep.QuietTactic
import Derived.BigQuiet
import Derived.Below
import Derived.OwnWalk
import Derived.Laws.Runes
import Derived.Deep.LoopGhost
import Derived.Deep.DeepCutAuto
namespace Go.Proofs.Qxb6600888a
open Go.RowKit
set_option linter.unusedVariables false
set_option linter.unusedSimpArgs false

theorem keepW {P : Program} {f : FuncId} {args : Array Value} {w : World} {A : Ending → Prop} {R : Ending → World → Prop} (h : Calls P f args w fun e w' => A e ∧ w' = w) (k : ∀ e, A e → R e w) : Calls P f args w R :=
  h.mono fun e w' ⟨ha, hw⟩ => by subst hw; exact k e ha
theorem at_world {c : Code} {P : Program} {Q : Exit → Act → World → Prop} {a : Act} {w : World} (R : World → Prop) (h : R w) (k : ∀ w', R w' → c.wp P Q a w') : c.wp P Q a w := k w h
theorem ret_bool {a b : Bool} (h : a = b) : Ending.returned (.bool a) = .returned (.bool b) := by rw [h]

abbrev lst (s : ByteArray) : Str := s.data.toList
def bs (l : Str) : ByteArray := ⟨l.toArray⟩
theorem lst_bs (l : Str) : lst (bs l) = l := rfl
theorem bs_lst (s : ByteArray) : bs (lst s) = s := rfl
theorem bs_size (l : Str) : (bs l).size = l.length := rfl
theorem lst_len (s : ByteArray) : (lst s).length = s.size := rfl
theorem lst_get (s : ByteArray) (k : Nat) (h : k < s.size) : (lst s)[k]? = some (s[k]'h) := Lib.data_getElem? s k h
theorem lst_none (s : ByteArray) (k : Nat) (h : ¬ k < s.size) : (lst s)[k]? = none := List.getElem?_eq_none (by rw [lst_len]; omega)
theorem is46 {b : UInt8} (h : ((b.toNat : Int) == 46) = true) : b = 46 := by
  have : b.toNat = 46 := by have := beq_iff_eq.1 h; omega
  exact UInt8.toNat_inj.1 this
theorem not46 {b : UInt8} (h : ((b.toNat : Int) == 46) = false) : b ≠ 46 := by
  rintro rfl; simp at h

set_option maxHeartbeats 1000000 in
theorem isDotted_w (s : ByteArray) (w : World) (hs : s.size ≤ 1048576) :
    Calls Try.prog 14 #[.string s] w fun e w' => e = .returned (.bool (dotted (lst s))) ∧ w' = w := by
  by_cases h0 : s.size = 0
  · have hr : dotted (lst s) = false := by
      have : lst s = [] := List.eq_nil_of_length_eq_zero (by rw [lst_len]; exact h0)
      rw [this]; rfl
    rw [hr]
    have hz : ((s.size : Int) == 0) = true := beq_iff_eq.2 (by omega)
    go_enter Try.func14, Try.ntmps14
    go_wp2
    go_ret
    exact ⟨rfl, rfl⟩
  · have hz : ((s.size : Int) == 0) = false := beq_eq_false_iff_ne.2 (by omega)
    have hp : 0 < s.size := by omega
    obtain ⟨x, hx⟩ : ∃ x : UInt8, s[0]'hp = x := ⟨_, rfl⟩
    have gx := lst_get s 0 hp
    rw [hx] at gx
    cases hd : ((x.toNat : Int) == 46) with
    | true =>
      have hr : dotted (lst s) = false := by
        apply Bool.eq_false_iff.2
        intro h
        exact ((dotted_iff _).1 h).2.1 (by rw [gx, is46 hd])
      rw [hr]
      clear gx
      have h0i : (0 : Int) < (s.size : Int) := by omega
      go_enter Try.func14, Try.ntmps14
      go_wp2
      go_ret
      exact ⟨rfl, rfl⟩
    | false =>
      obtain ⟨m, hm⟩ : ∃ m, s.size = m + 1 := ⟨s.size - 1, by omega⟩
      have hmlt : m < s.size := by omega
      obtain ⟨y, hy⟩ : ∃ y : UInt8, s[m]'hmlt = y := ⟨_, rfl⟩
      have gy := lst_get s m hmlt
      rw [hy] at gy
      have h0i : (0 : Int) < (s.size : Int) := by omega
      have hw : IntKind.i64.wrap ((s.size : Int) - 1) = (m : Int) := by rw [wrap_small _ (by omega) (by omega)]; omega
      have hmi : (m : Int) < (s.size : Int) := by omega
      have hm0 : (0 : Int) ≤ (m : Int) := by omega
      have HM : Hid (s.size = m + 1) := hm
      have GX : Hid ((lst s)[0]? = some x) := gx
      have GY : Hid ((lst s)[m]? = some y) := gy
      clear hm gx gy
      cases hd2 : ((y.toNat : Int) == 46) with
      | true =>
        have hr : dotted (lst s) = false := by
          apply Bool.eq_false_iff.2
          intro h
          refine ((dotted_iff _).1 h).2.2.1 ?_
          rw [lst_len, HM.out, show m + 1 - 1 = m by omega, GY.out, is46 hd2]
        rw [hr]
        go_enter Try.func14, Try.ntmps14
        go_wp2
        go_ret
        exact ⟨rfl, rfl⟩
      | false =>
        go_enter Try.func14, Try.ntmps14
        go_wp2
        go_loop [3] (fun i => ∃ k : Nat, 1 ≤ k ∧ k ≤ s.size ∧ i = .int .i64 k ∧ ∀ j : Nat, j + 1 < k → (lst s)[j]? = some (46 : UInt8) → (lst s)[j + 1]? ≠ some (46 : UInt8)) (fun i => s.size - (intOf i).toNat)
        case atStart => exact ⟨1, by omega, by omega, rfl, fun j hj => absurd hj (by omega)⟩
        case round =>
          obtain ⟨k, hk1, hk, rfl, hno⟩ := hrel
          have HN : Hid (∀ j : Nat, j + 1 < k → (lst s)[j]? = some (46 : UInt8) → (lst s)[j + 1]? ≠ some (46 : UInt8)) := hno
          clear hno
          by_cases hlt : k < s.size
          · obtain ⟨b, hb⟩ : ∃ b : UInt8, s[k]'hlt = b := ⟨_, rfl⟩
            have gb := lst_get s k hlt
            rw [hb] at gb
            obtain ⟨q, hq⟩ : ∃ q, k = q + 1 := ⟨k - 1, by omega⟩
            have hqlt : q < s.size := by omega
            obtain ⟨c, hc⟩ : ∃ c : UInt8, s[q]'hqlt = c := ⟨_, rfl⟩
            have gc := lst_get s q hqlt
            rw [hc] at gc
            have hki : (k : Int) < (s.size : Int) := by omega
            have hk0 : (0 : Int) ≤ (k : Int) := by omega
            have hqi : (q : Int) < (s.size : Int) := by omega
            have hq0 : (0 : Int) ≤ (q : Int) := by omega
            have hw1 : IntKind.i64.wrap ((k : Int) - 1) = (q : Int) := by rw [wrap_small _ (by omega) (by omega)]; omega
            have hw2 : IntKind.i64.wrap ((k : Int) + 1) = (k : Int) + 1 := wrap_small _ (by omega) (by omega)
            have GB : Hid ((lst s)[k]? = some b) := gb
            have GC : Hid ((lst s)[q]? = some c) := gc
            have HQ : Hid (k = q + 1) := hq
            clear gb gc hq
            cases hb46 : ((b.toNat : Int) == 46) with
            | true =>
              cases hc46 : ((c.toNat : Int) == 46) with
              | true =>
                have hr : dotted (lst s) = false := by
                  apply Bool.eq_false_iff.2
                  intro h
                  refine ((dotted_iff _).1 h).2.2.2 q (by rw [GC.out, is46 hc46]) ?_
                  rw [← HQ.out, GB.out, is46 hb46]
                go_wp2
                go_ret
                exact ⟨rfl, rfl⟩
              | false =>
                go_wp2
                go_round
                case rel =>
                  refine ⟨k + 1, by omega, by omega, by go_num, fun j hj hj2 => ?_⟩
                  by_cases e : j = q
                  · subst e; rw [GC.out] at hj2; exact absurd (Option.some.inj hj2) (not46 hc46)
                  · have := HQ.out; exact HN.out j (by omega) hj2
                case measure => simp [intOf]; omega
            | false =>
              go_wp2
              go_round
              case rel =>
                refine ⟨k + 1, by omega, by omega, by go_num, fun j hj hj2 => ?_⟩
                by_cases e : j = q
                · subst e; rw [← HQ.out, GB.out]; exact fun h => not46 hb46 (Option.some.inj h)
                · have := HQ.out; exact HN.out j (by omega) hj2
              case measure => simp [intOf]; omega
          · have hr : dotted (lst s) = true := by
              rw [dotted_iff]
              refine ⟨fun h => ?_, ?_, ?_, fun j hj => ?_⟩
              · have := congrArg List.length h; rw [lst_len, List.length_nil] at this; omega
              · rw [GX.out]; exact fun h => not46 hd (Option.some.inj h)
              · rw [lst_len, HM.out, show m + 1 - 1 = m by omega, GY.out]; exact fun h => not46 hd2 (Option.some.inj h)
              · by_cases hj2 : j + 1 < s.size
                · exact HN.out j (by omega) hj
                · rw [lst_none s (j + 1) hj2]; exact fun h => by cases h
            go_wp2
            go_ret
            exact ⟨rfl, rfl⟩

/-- before, from place k on. -/
theorem before_at (a b : Str) (k : Nat) (x y : UInt8) (hx : a[k]? = some x) (hy : b[k]? = some y) : before (a.drop k) (b.drop k) = if x = y then before (a.drop (k + 1)) (b.drop (k + 1)) else lt1 x y := by
  obtain ⟨h1, e1⟩ := List.getElem?_eq_some_iff.1 hx
  obtain ⟨h2, e2⟩ := List.getElem?_eq_some_iff.1 hy
  rw [List.drop_eq_getElem_cons h1, List.drop_eq_getElem_cons h2, e1, e2, before_cons]
theorem before_end (a b : Str) (k : Nat) (h : k = min a.length b.length) : before (a.drop k) (b.drop k) = decide (a.length < b.length) := by
  by_cases ha : a.length ≤ b.length
  · have : a.drop k = [] := List.drop_of_length_le (by omega)
    rw [this]
    by_cases hb : a.length < b.length
    · rw [decide_eq_true hb]
      have : b.drop k ≠ [] := by intro e; have := congrArg List.length e; rw [List.length_drop] at this; simp at this; omega
      obtain ⟨y, t, e⟩ := List.exists_cons_of_ne_nil this
      rw [e]; rfl
    · rw [decide_eq_false hb]
      have : b.drop k = [] := List.drop_of_length_le (by omega)
      rw [this]; rfl
  · rw [decide_eq_false (by omega)]
    have : b.drop k = [] := List.drop_of_length_le (by omega)
    rw [this]
    cases a.drop k <;> rfl

set_option maxHeartbeats 1000000 in
theorem before_w (a b : ByteArray) (w : World) (ha : a.size ≤ 1048576) (hb : b.size ≤ 1048576) :
    Calls Try.prog 16 #[.string a, .string b] w fun e w' => e = .returned (.bool (before (lst a) (lst b))) ∧ w' = w := by
  obtain ⟨m, hm⟩ : ∃ m, m = min a.size b.size := ⟨_, rfl⟩
  have HM : Hid (m = min a.size b.size) := hm
  have hma : m ≤ a.size := by omega
  have hmb : m ≤ b.size := by omega
  have hlast : decide ((a.size : Int) < (b.size : Int)) = decide (a.size < b.size) := by simp
  by_cases hlt : b.size < a.size
  · obtain rfl : m = b.size := by omega
    clear hm
    have hlti : (b.size : Int) < (a.size : Int) := by omega
    go_enter Try.func16, Try.ntmps16
    go_wp2
    go_loop [6, 7, 8] (fun i _ _ => ∃ k : Nat, k ≤ b.size ∧ i = .int .i64 k ∧ before (lst a) (lst b) = before ((lst a).drop k) ((lst b).drop k)) (fun i _ _ => b.size - (intOf i).toNat)
    case atStart => exact ⟨0, Nat.zero_le _, rfl, by simp⟩
    case round =>
      obtain ⟨k, hk, rfl, he⟩ := hrel
      replace he := hid he
      by_cases hkl : k < b.size
      · have hka : k < a.size := by omega
        have hkb : k < b.size := by omega
        obtain ⟨x, hx⟩ : ∃ x : UInt8, a[k]'hka = x := ⟨_, rfl⟩
        obtain ⟨y, hy⟩ : ∃ y : UInt8, b[k]'hkb = y := ⟨_, rfl⟩
        have hstep := before_at (lst a) (lst b) k x y (by rw [lst_get a k hka, hx]) (by rw [lst_get b k hkb, hy])
        rw [← he.out] at hstep
        replace hstep := hid hstep
        have hai : (k : Int) < (a.size : Int) := by omega
        have hbi : (k : Int) < (b.size : Int) := by omega
        have hk0 : (0 : Int) ≤ (k : Int) := by omega
        have hw2 : IntKind.i64.wrap ((k : Int) + 1) = (k : Int) + 1 := wrap_small _ (by omega) (by omega)
        by_cases exy : x = y
        · subst exy
          have hxx : ((x.toNat : Int) == (x.toNat : Int)) = true := beq_self_eq_true _
          have hs2 := hstep.out
          rw [if_pos rfl] at hs2
          replace hs2 := hid hs2
          go_wp2
          go_round
          case rel => exact ⟨k + 1, by omega, by go_num, hs2.out⟩
          case measure => simp [intOf]; omega
        · have hne : ((x.toNat : Int) == (y.toNat : Int)) = false := beq_eq_false_iff_ne.2 fun e => exy (UInt8.toNat_inj.1 (by omega))
          have hs2 := hstep.out
          rw [if_neg exy] at hs2
          cases hx46 : ((x.toNat : Int) == 46) with
          | true =>
            have hv : before (lst a) (lst b) = true := by rw [hs2]; unfold lt1; rw [if_pos (is46 hx46)]
            clear hs2
            go_wp2
            go_ret
            exact ⟨rfl, rfl⟩
          | false =>
            cases hy46 : ((y.toNat : Int) == 46) with
            | true =>
              have hv : before (lst a) (lst b) = false := by rw [hs2]; unfold lt1; rw [if_neg (not46 hx46), if_pos (is46 hy46)]
              clear hs2
              go_wp2
              go_ret
              exact ⟨rfl, rfl⟩
            | false =>
              have hv : before (lst a) (lst b) = decide ((x.toNat : Int) < (y.toNat : Int)) := by
                rw [hs2]; unfold lt1; rw [if_neg (not46 hx46), if_neg (not46 hy46)]
                exact decide_eq_decide.2 (by omega)
              replace hv := hid hv
              clear hs2
              go_wp2
              go_ret
              exact ⟨by rw [hv.out]; simp, rfl⟩
      · have hr := before_end (lst a) (lst b) k (by rw [lst_len, lst_len, ← HM.out]; omega)
        rw [← he.out, lst_len, lst_len] at hr
        replace hr := hid hr
        go_wp2
        go_ret
        exact ⟨by rw [hr.out]; first | rfl | simp | (simp; omega), rfl⟩
  · obtain rfl : m = a.size := by omega
    clear hm
    have hlti : ¬ (b.size : Int) < (a.size : Int) := by omega
    go_enter Try.func16, Try.ntmps16
    go_wp2
    go_loop [6, 7, 8] (fun i _ _ => ∃ k : Nat, k ≤ a.size ∧ i = .int .i64 k ∧ before (lst a) (lst b) = before ((lst a).drop k) ((lst b).drop k)) (fun i _ _ => a.size - (intOf i).toNat)
    case atStart => exact ⟨0, Nat.zero_le _, rfl, by simp⟩
    case round =>
      obtain ⟨k, hk, rfl, he⟩ := hrel
      replace he := hid he
      by_cases hkl : k < a.size
      · have hka : k < a.size := by omega
        have hkb : k < b.size := by omega
        obtain ⟨x, hx⟩ : ∃ x : UInt8, a[k]'hka = x := ⟨_, rfl⟩
        obtain ⟨y, hy⟩ : ∃ y : UInt8, b[k]'hkb = y := ⟨_, rfl⟩
        have hstep := before_at (lst a) (lst b) k x y (by rw [lst_get a k hka, hx]) (by rw [lst_get b k hkb, hy])
        rw [← he.out] at hstep
        replace hstep := hid hstep
        have hai : (k : Int) < (a.size : Int) := by omega
        have hbi : (k : Int) < (b.size : Int) := by omega
        have hk0 : (0 : Int) ≤ (k : Int) := by omega
        have hw2 : IntKind.i64.wrap ((k : Int) + 1) = (k : Int) + 1 := wrap_small _ (by omega) (by omega)
        by_cases exy : x = y
        · subst exy
          have hxx : ((x.toNat : Int) == (x.toNat : Int)) = true := beq_self_eq_true _
          have hs2 := hstep.out
          rw [if_pos rfl] at hs2
          replace hs2 := hid hs2
          go_wp2
          go_round
          case rel => exact ⟨k + 1, by omega, by go_num, hs2.out⟩
          case measure => simp [intOf]; omega
        · have hne : ((x.toNat : Int) == (y.toNat : Int)) = false := beq_eq_false_iff_ne.2 fun e => exy (UInt8.toNat_inj.1 (by omega))
          have hs2 := hstep.out
          rw [if_neg exy] at hs2
          cases hx46 : ((x.toNat : Int) == 46) with
          | true =>
            have hv : before (lst a) (lst b) = true := by rw [hs2]; unfold lt1; rw [if_pos (is46 hx46)]
            clear hs2
            go_wp2
            go_ret
            exact ⟨rfl, rfl⟩
          | false =>
            cases hy46 : ((y.toNat : Int) == 46) with
            | true =>
              have hv : before (lst a) (lst b) = false := by rw [hs2]; unfold lt1; rw [if_neg (not46 hx46), if_pos (is46 hy46)]
              clear hs2
              go_wp2
              go_ret
              exact ⟨rfl, rfl⟩
            | false =>
              have hv : before (lst a) (lst b) = decide ((x.toNat : Int) < (y.toNat : Int)) := by
                rw [hs2]; unfold lt1; rw [if_neg (not46 hx46), if_neg (not46 hy46)]
                exact decide_eq_decide.2 (by omega)
              replace hv := hid hv
              clear hs2
              go_wp2
              go_ret
              exact ⟨by rw [hv.out]; simp, rfl⟩
      · have hr := before_end (lst a) (lst b) k (by rw [lst_len, lst_len, ← HM.out]; omega)
        rw [← he.out, lst_len, lst_len] at hr
        replace hr := hid hr
        go_wp2
        go_ret
        exact ⟨by rw [hr.out]; first | rfl | simp | (simp; omega), rfl⟩

end Go.Proofs.Qxb6600888a
