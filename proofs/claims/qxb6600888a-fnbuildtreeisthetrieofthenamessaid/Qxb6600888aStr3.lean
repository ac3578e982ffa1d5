import Derived.Test.Qxb6600888aStr2
import Derived.Lib.IndexLaws
namespace Go.Proofs.Qxb6600888a
open Go.RowKit
set_option linter.unusedVariables false
set_option linter.unusedSimpArgs false

set_option maxHeartbeats 1000000 in
theorem cut27_none (s : ByteArray) (w : World) (hi : Lib.indexByte (lst s) 46 = -1) :
    Calls Try.prog 27 #[.string s, .string ⟨#[46]⟩] w fun e w' => (∃ b c, e = .returned (.tuple #[.string s, b, c])) ∧ ∃ n, w' = w.drewN n := by
  have K := Try.stringslite_Index_one s 46
  rw [hi] at K
  replace K := hid K
  clear hi
  go_enter Try.func27, Try.ntmps27
  go_wp2_with (go_at_call 30; refine keepW (K.out _) ?_; rintro e rfl)
  go_ret3
  exact ⟨⟨_, _, rfl⟩, 0, rfl⟩

set_option maxHeartbeats 1000000 in
theorem cut27_some (s : ByteArray) (w : World) (i : Nat) (hs : s.size ≤ 1048576) (hlt : i < s.size) (hi : Lib.indexByte (lst s) 46 = i) :
    Calls Try.prog 27 #[.string s, .string ⟨#[46]⟩] w fun e w' => (∃ b c, e = .returned (.tuple #[.string (s.extract 0 i), b, c])) ∧ ∃ n, w' = w.drewN n := by
  have K := Try.stringslite_Index_one s 46
  rw [hi] at K
  replace K := hid K
  clear hi
  have h0 : (0 : Int) ≤ (i : Int) := by omega
  have hsl : ∀ w, (Instr.slice 9 (.string s) none (some (.int .i64 i)) none).run Try.prog w = .ok (.string (s.extract 0 i)) w := fun w =>
    run_slice_string_h w 9 s Try.underlying9 .i64 i h0 (by omega)
  have hw : IntKind.i64.wrap ((i : Int) + 1) = (i : Int) + 1 := wrap_small _ (by omega) (by omega)
  have hsl2 : ∀ w, (Instr.slice 9 (.string s) (some (.int .i64 ((i : Int) + 1))) none none).run Try.prog w = .ok (.string (s.extract ((i : Int) + 1).toNat s.size)) w := fun w =>
    run_slice_string_l w 9 s Try.underlying9 .i64 ((i : Int) + 1) (by omega) (by omega)
  generalize s.extract 0 i = u at *
  generalize s.extract ((i : Int) + 1).toNat s.size = v at *
  go_enter Try.func27, Try.ntmps27
  go_wp2_with (go_at_call 30; refine keepW (K.out _) ?_; rintro e rfl)
  go_quiet (fail)
  go_wp2_with fail
  go_ret3
  exact ⟨⟨_, _, rfl⟩, _, rfl⟩

theorem cut27_w (s : ByteArray) (w : World) (hs : s.size ≤ 1048576) :
    Calls Try.prog 27 #[.string s, .string ⟨#[46]⟩] w fun e w' => (∃ b c, e = .returned (.tuple #[.string (bs (fn (lst s))), b, c])) ∧ ∃ n, w' = w.drewN n := by
  have hge := Lib.indexByte_ge (lst s) 46
  by_cases h : Lib.indexByte (lst s) 46 = -1
  · have hno := Lib.indexByte_none h
    have hf := fn_at (s := lst s) (k := s.size) (fun j _ => hno j) _ (lst_none s s.size (by omega)) (Or.inl rfl)
    rw [List.take_of_length_le (by rw [lst_len]; omega)] at hf
    rw [hf]
    exact cut27_none s w h
  · obtain ⟨i, hi⟩ : ∃ i : Nat, Lib.indexByte (lst s) 46 = i := ⟨(Lib.indexByte (lst s) 46).toNat, by omega⟩
    obtain ⟨h1, h2⟩ := Lib.indexByte_some hi
    have hlt : i < s.size := by rw [← lst_len]; exact (List.getElem?_eq_some_iff.1 h1).1
    have hf := fn_at (s := lst s) (k := i) h2 _ h1 (Or.inr rfl)
    have e : s.extract 0 i = bs (fn (lst s)) := by rw [extract_bs s 0 i (by omega), hf]; rfl
    rw [← e]
    exact cut27_some s w i hs hlt hi

set_option maxHeartbeats 1000000 in
theorem cut_w (s : ByteArray) (w : World) (hs : s.size ≤ 1048576) :
    Calls Try.prog 23 #[.string s, .string ⟨#[46]⟩] w fun e w' => (∃ b c, e = .returned (.tuple #[.string (bs (fn (lst s))), b, c])) ∧ ∃ n, w' = w.drewN n := by
  have K := fun w => cut27_w s w hs
  replace K := hid K
  go_enter Try.func23, Try.ntmps23
  go_wp2_with (go_at_call 27; refine (K.out _).mono ?_; rintro e wz ⟨⟨b, c, rfl⟩, hn⟩; replace hn := hid hn)
  go_ret3
  exact ⟨⟨_, _, rfl⟩, hn.out⟩

/-! holds -/
theorem prefix_iff (p x : Str) : Lib.hasPrefix x p = true ↔ ∃ r, x = p ++ r := by
  unfold Lib.hasPrefix
  rw [List.isPrefixOf_iff_prefix]
  constructor
  · rintro ⟨r, h⟩; exact ⟨r, h.symm⟩
  · rintro ⟨r, h⟩; exact ⟨r, h.symm⟩

set_option maxHeartbeats 1000000 in
theorem holds_yes (p x : ByteArray) (w : World) (hp : lst p ≠ []) (hs : x.size ≤ 1048576) (h : holds (lst p) (lst x)) :
    Calls Try.prog 24 #[.string p, .string x] w fun e w' => e = .returned (.bool true) ∧ w' = w := by
  have hp0 : p.toList.isEmpty = false := by
    rw [Lib.toList_data]; cases hh : p.data.toList with
    | nil => exact absurd hh hp
    | cons _ _ => rfl
  have K := Try.strings_HasPrefix x p
  rcases h with h | ⟨r, h⟩
  · have hpre : Lib.hasPrefix x.data.toList p.data.toList = true := (prefix_iff _ _).2 ⟨[], by simpa using h⟩
    rw [hpre] at K
    replace K := hid K
    have hl : ((x.size : Int) == (p.size : Int)) = true := beq_iff_eq.2 (by
      have := congrArg List.length h; rw [lst_len, lst_len] at this; omega)
    clear h hp hpre
    go_enter Try.func24, Try.ntmps24
    go_wp2_with (go_at_call 28; refine keepW (K.out _) ?_; rintro e rfl)
    go_ret
    exact ⟨rfl, rfl⟩
  · have hpre : Lib.hasPrefix x.data.toList p.data.toList = true := (prefix_iff _ _).2 ⟨_, h⟩
    rw [hpre] at K
    replace K := hid K
    have hlen : x.size = p.size + (r.length + 1) := by
      have := congrArg List.length h; rw [List.length_append, lst_len, lst_len] at this; simpa using this
    have hl : ((x.size : Int) == (p.size : Int)) = false := beq_eq_false_iff_ne.2 (by omega)
    have hlt : p.size < x.size := by omega
    have hx : x[p.size]'hlt = 46 := by
      have := lst_get x p.size hlt
      rw [h] at this
      rw [List.getElem?_append_right (by rw [lst_len]; exact Nat.le_refl _)] at this
      simp [lst_len] at this
      exact this.symm
    have hi : (p.size : Int) < (x.size : Int) := by omega
    have h0 : (0 : Int) ≤ (p.size : Int) := by omega
    clear h hp hpre hlen
    go_enter Try.func24, Try.ntmps24
    go_wp2_with (go_at_call 28; refine keepW (K.out _) ?_; rintro e rfl)
    go_ret
    exact ⟨rfl, rfl⟩

set_option maxHeartbeats 1000000 in
theorem holds_no (p x : ByteArray) (w : World) (hp : lst p ≠ []) (hs : x.size ≤ 1048576) (h : ¬ holds (lst p) (lst x)) :
    Calls Try.prog 24 #[.string p, .string x] w fun e w' => e = .returned (.bool false) ∧ w' = w := by
  have hp0 : p.toList.isEmpty = false := by
    rw [Lib.toList_data]; cases hh : p.data.toList with
    | nil => exact absurd hh hp
    | cons _ _ => rfl
  have K := Try.strings_HasPrefix x p
  cases hpre : Lib.hasPrefix x.data.toList p.data.toList with
  | false =>
    rw [hpre] at K
    replace K := hid K
    clear h hp hpre
    go_enter Try.func24, Try.ntmps24
    go_wp2_with (go_at_call 28; refine keepW (K.out _) ?_; rintro e rfl)
    go_ret
    exact ⟨rfl, rfl⟩
  | true =>
    rw [hpre] at K
    replace K := hid K
    obtain ⟨r, hr⟩ := (prefix_iff _ _).1 hpre
    cases r with
    | nil => exact absurd (Or.inl (by simpa using hr)) h
    | cons c r =>
      have hc : c ≠ 46 := by rintro rfl; exact h (Or.inr ⟨r, hr⟩)
      have hlen : x.size = p.size + (r.length + 1) := by
        have := congrArg List.length hr
        rw [List.length_append] at this
        have e1 : x.data.toList.length = x.size := rfl
        have e2 : p.data.toList.length = p.size := rfl
        rw [e1, e2] at this
        simpa using this
      have hl : ((x.size : Int) == (p.size : Int)) = false := beq_eq_false_iff_ne.2 (by omega)
      have hlt : p.size < x.size := by omega
      have hx : x[p.size]'hlt = c := by
        have := lst_get x p.size hlt
        have hr' : lst x = lst p ++ c :: r := hr
        rw [hr', List.getElem?_append_right (by rw [lst_len]; exact Nat.le_refl _)] at this
        simp [lst_len] at this
        exact this.symm
      have hi : (p.size : Int) < (x.size : Int) := by omega
      have h0 : (0 : Int) ≤ (p.size : Int) := by omega
      have hc46 : ((c.toNat : Int) == 46) = false := beq_eq_false_iff_ne.2 fun e => hc (UInt8.toNat_inj.1 (by simp; omega))
      clear h hp hpre hlen hr hc
      go_enter Try.func24, Try.ntmps24
      go_wp2_with (go_at_call 28; refine keepW (K.out _) ?_; rintro e rfl)
      go_ret
      exact ⟨rfl, rfl⟩

/-! sharedPrefix -/
theorem lcp_at (a b : Str) (k : Nat) (x y : UInt8) (hx : a[k]? = some x) (hy : b[k]? = some y) : lcp (a.drop k) (b.drop k) = if x = y then lcp (a.drop (k + 1)) (b.drop (k + 1)) + 1 else 0 := by
  obtain ⟨h1, e1⟩ := List.getElem?_eq_some_iff.1 hx
  obtain ⟨h2, e2⟩ := List.getElem?_eq_some_iff.1 hy
  rw [List.drop_eq_getElem_cons h1, List.drop_eq_getElem_cons h2, e1, e2]; rfl
theorem lcp_end (a b : Str) (k : Nat) (h : a.length ≤ k ∨ b.length ≤ k) : lcp (a.drop k) (b.drop k) = 0 := by
  rcases h with h | h
  · rw [List.drop_of_length_le h]; cases b.drop k <;> rfl
  · rw [List.drop_of_length_le h]; cases a.drop k <;> rfl
theorem drewn_more {w wr : World} (h : ∃ n, wr = w.drewN n) (m : Nat) : ∃ n, wr.drewN m = w.drewN n := by
  obtain ⟨n, rfl⟩ := h
  exact ⟨n + m, by rw [World.drewN_drewN]⟩

end Go.Proofs.Qxb6600888a
