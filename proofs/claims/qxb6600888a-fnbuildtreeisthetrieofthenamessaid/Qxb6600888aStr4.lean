import Derived.Test.Qxb6600888aStr3
import Derived.Lib.LastIndexByte
namespace Go.Proofs.Qxb6600888a
open Go.RowKit
set_option linter.unusedVariables false
set_option linter.unusedSimpArgs false

theorem last_at (a : ByteArray) (i : Nat) (hi : i ≤ a.size) (hex : ∃ p : Nat, p < i ∧ (lst a)[p]? = some (46 : UInt8)) :
    ∃ p : Nat, Lib.lastIndexByte (a.extract 0 i) 46 = p ∧ p < i ∧ (lst a)[p]? = some (46 : UInt8) ∧ ∀ j : Nat, p < j → j < i → (lst a)[j]? ≠ some (46 : UInt8) := by
  have hsz : (a.extract 0 i).size = i := by simp; omega
  have hget : ∀ j, j < i → ((((a.extract 0 i).data[j]!).toNat : Int) = 46 ↔ (lst a)[j]? = some (46 : UInt8)) := by
    intro j hj
    have : (a.extract 0 i).data[j]! = a[j]'(by omega) := by
      rw [getElem!_pos _ j (by show j < (a.extract 0 i).size; omega)]
      simp [ByteArray.data_extract]
      rfl
    rw [this, lst_get a j (by omega)]
    constructor
    · intro h; congr 1; exact UInt8.toNat_inj.1 (by simp; omega)
    · intro h; rw [Option.some.inj h]; rfl
  rcases Lib.lastIndexByte_spec (a.extract 0 i) 46 with ⟨h1, h2⟩ | ⟨p, h1, h2, h3, h4⟩
  · obtain ⟨p, hp, hp2⟩ := hex
    exact absurd ((hget p hp).2 hp2) (h2 p (by omega))
  · rw [hsz] at h1 h4
    exact ⟨p, h2, h1, (hget p h1).1 h3, fun j hj hji e => h4 j hj hji ((hget j hji).2 e)⟩

theorem bd_end {a : ByteArray} {k : Nat} (h : k = a.size) : bd (lst a) k := Or.inl (by rw [lst_len]; exact h)
theorem bd_dot {a : ByteArray} {k : Nat} {x : UInt8} (h : (lst a)[k]? = some x) (hx : ((x.toNat : Int) == 46) = true) : bd (lst a) k := Or.inr (by rw [h, is46 hx])
theorem bd_not {a : ByteArray} {k : Nat} {x : UInt8} (h : (lst a)[k]? = some x) (hx : ((x.toNat : Int) == 46) = false) : ¬ bd (lst a) k := by
  rintro (e | e)
  · have := (List.getElem?_eq_some_iff.1 h).1; omega
  · rw [h] at e; exact not46 hx (Option.some.inj e)

set_option maxHeartbeats 4000000 in
theorem shared_w (a b : ByteArray) (w : World) (ha : a.size ≤ 1048576) (hb : b.size ≤ 1048576) (da : dotted (lst a) = true) (hf : fn (lst a) = fn (lst b)) (hle : le (lst a) (lst b)) :
    Calls Try.prog 25 #[.string a, .string b] w fun e w' => (∃ p : Nat, e = .returned (.int .i64 p) ∧ Shared (lst a) (lst b) p) ∧ ∃ n, w' = w.drewN n := by
  have DA : Hid (dotted (lst a) = true ∧ fn (lst a) = fn (lst b) ∧ le (lst a) (lst b)) := ⟨da, hf, hle⟩
  clear da hf hle
  obtain ⟨m, hm⟩ : ∃ m, m = min a.size b.size := ⟨_, rfl⟩
  have hmin : min (a.size : Int) (b.size : Int) = (m : Int) := by omega
  have hma : m ≤ a.size := by omega
  have hmb : m ≤ b.size := by omega
  have hend : ∀ k, ¬ k < m → a.size ≤ k ∨ b.size ≤ k := by omega
  replace hend := hid hend
  clear hm
  go_enter Try.func25, Try.ntmps25
  go_wp2
  go_loopw [6] (fun i wr => ∃ k : Nat, k ≤ m ∧ i = .int .i64 k ∧ (∃ n, wr = w.drewN n) ∧ lcp (lst a) (lst b) = k + lcp ((lst a).drop k) ((lst b).drop k)) (fun i _ => m - (intOf i).toNat)
  case atStart => exact ⟨0, Nat.zero_le _, rfl, ⟨0, rfl⟩, by simp⟩
  case round =>
    obtain ⟨k, hk, rfl, hwr, he⟩ := hrel
    have HW : Hid (∃ n, wr = w.drewN n) := hwr
    replace he := hid he
    clear hwr
    have hk0 : (0 : Int) ≤ (k : Int) := by omega
    by_cases hlt : k < m
    · have hka : k < a.size := by omega
      have hkb : k < b.size := by omega
      have hai : (k : Int) < (a.size : Int) := by omega
      have hbi : (k : Int) < (b.size : Int) := by omega
      obtain ⟨x, hx⟩ : ∃ x : UInt8, a[k]'hka = x := ⟨_, rfl⟩
      obtain ⟨y, hy⟩ : ∃ y : UInt8, b[k]'hkb = y := ⟨_, rfl⟩
      have hst := lcp_at (lst a) (lst b) k x y (by rw [lst_get a k hka, hx]) (by rw [lst_get b k hkb, hy])
      have gx : Hid ((lst a)[k]? = some x) := by show _ = _; rw [lst_get a k hka, hx]
      have gy : Hid ((lst b)[k]? = some y) := by show _ = _; rw [lst_get b k hkb, hy]
      have hw4 : IntKind.i64.wrap ((k : Int) + 1) = (k : Int) + 1 := wrap_small _ (by omega) (by omega)
      by_cases exy : x = y
      · subst exy
        rw [if_pos rfl] at hst
        have he2 : lcp (lst a) (lst b) = k + 1 + lcp ((lst a).drop (k + 1)) ((lst b).drop (k + 1)) := by rw [he.out, hst]; omega
        replace he2 := hid he2
        clear hst
        have hxx : ((x.toNat : Int) == (x.toNat : Int)) = true := beq_self_eq_true _
        go_wp2
        go_quiet (fail)
        go_wp2
        go_roundw
        case rel => exact ⟨k + 1, by omega, by go_num, drewn_more HW.out _, he2.out⟩
        case measure => simp [intOf]; omega
      · have hne : ((x.toNat : Int) == (y.toNat : Int)) = false := beq_eq_false_iff_ne.2 fun e => exy (UInt8.toNat_inj.1 (by omega))
        rw [if_neg exy] at hst
        have hl : lcp (lst a) (lst b) = k := by rw [he.out, hst]; rfl
        have hqa : ((k : Int) == (a.size : Int)) = false := beq_eq_false_iff_ne.2 (by omega)
        have hqb : ((k : Int) == (b.size : Int)) = false := beq_eq_false_iff_ne.2 (by omega)
        clear hst
        cases x46 : ((x.toNat : Int) == 46) with
        | true =>
          have y46 : ((y.toNat : Int) == 46) = false := by
            apply Bool.eq_false_iff.2; intro h
            exact exy ((is46 x46).trans (is46 h).symm)
          obtain ⟨hex, hall⟩ := shared_last DA.out.1 DA.out.2.1 (by rw [hl]; exact fun h => bd_not gy.out y46 h.2)
          rw [hl] at hex hall
          obtain ⟨p, hp1, hp2, hp3, hp4⟩ := last_at a k (by omega) hex
          have hsh : Hid (Shared (lst a) (lst b) p) := hall p hp2 hp3 hp4
          have K29 := Try.strings_LastIndexByte (a.extract 0 k) 46 (by simp; omega)
          rw [hp1] at K29
          replace K29 := hid K29
          have hsl : ∀ w, (Instr.slice 9 (.string a) none (some (.int .i64 k)) none).run Try.prog w = .ok (.string (a.extract 0 k)) w := fun w => run_slice_string_h w 9 a Try.underlying9 .i64 k hk0 (by omega)
          generalize a.extract 0 k = u at *
          clear hl hex hall hp1 hp2 hp3 hp4
          go_wp2
          go_quiet (fail)
          go_wp2_with (go_at_call 29; refine keepW (K29.out _) ?_; rintro e rfl)
          go_ret
          exact ⟨⟨p, rfl, hsh.out⟩, drewn_more HW.out _⟩
        | false =>
          obtain ⟨hex, hall⟩ := shared_last DA.out.1 DA.out.2.1 (by rw [hl]; exact fun h => bd_not gx.out x46 h.1)
          rw [hl] at hex hall
          obtain ⟨p, hp1, hp2, hp3, hp4⟩ := last_at a k (by omega) hex
          have hsh : Hid (Shared (lst a) (lst b) p) := hall p hp2 hp3 hp4
          have K29 := Try.strings_LastIndexByte (a.extract 0 k) 46 (by simp; omega)
          rw [hp1] at K29
          replace K29 := hid K29
          have hsl : ∀ w, (Instr.slice 9 (.string a) none (some (.int .i64 k)) none).run Try.prog w = .ok (.string (a.extract 0 k)) w := fun w => run_slice_string_h w 9 a Try.underlying9 .i64 k hk0 (by omega)
          generalize a.extract 0 k = u at *
          clear hl hex hall hp1 hp2 hp3 hp4
          go_wp2
          go_quiet (fail)
          go_wp2_with (go_at_call 29; refine keepW (K29.out _) ?_; rintro e rfl)
          go_ret
          exact ⟨⟨p, rfl, hsh.out⟩, drewn_more HW.out _⟩
    · have hl : lcp (lst a) (lst b) = k := by
        rw [he.out, lcp_end _ _ k (by rw [lst_len, lst_len]; exact hend.out k hlt)]; rfl
      have hnm : ¬ (k : Int) < (m : Int) := by omega
      have hend2 := hend.out k hlt
      by_cases ea : k = a.size
      · have hqa : ((k : Int) == (a.size : Int)) = true := beq_iff_eq.2 (by omega)
        have EA : Hid (k = a.size) := ea
        by_cases eb : k = b.size
        · have hqb : ((k : Int) == (b.size : Int)) = true := beq_iff_eq.2 (by omega)
          have EB : Hid (k = b.size) := eb
          clear ea eb hend2
          have hsh : Hid (Shared (lst a) (lst b) k) := by
            have := shared_bd DA.out.1 DA.out.2.2 (by rw [hl]; exact bd_end EA.out) (by rw [hl]; exact bd_end EB.out)
            rw [hl] at this; exact this
          clear hl
          go_wp2
          go_quiet (fail)
          go_wp2
          go_ret
          exact ⟨⟨k, rfl, hsh.out⟩, drewn_more HW.out _⟩
        · have hqb : ((k : Int) == (b.size : Int)) = false := beq_eq_false_iff_ne.2 (by omega)
          have hkb : k < b.size := by omega
          have hbi : (k : Int) < (b.size : Int) := by omega
          obtain ⟨y, hy⟩ : ∃ y : UInt8, b[k]'hkb = y := ⟨_, rfl⟩
          have gy : Hid ((lst b)[k]? = some y) := by show _ = _; rw [lst_get b k hkb, hy]
          have hka2 : k ≤ a.size := by omega
          clear ea eb hend2
          cases y46 : ((y.toNat : Int) == 46) with
          | true =>
            have hsh : Hid (Shared (lst a) (lst b) k) := by
              have := shared_bd DA.out.1 DA.out.2.2 (by rw [hl]; exact bd_end EA.out) (by rw [hl]; exact bd_dot gy.out y46)
              rw [hl] at this; exact this
            clear hl
            go_wp2
            go_quiet (fail)
            go_wp2
            go_ret
            exact ⟨⟨k, rfl, hsh.out⟩, drewn_more HW.out _⟩
          | false =>
            obtain ⟨hex, hall⟩ := shared_last DA.out.1 DA.out.2.1 (by rw [hl]; exact fun h => bd_not gy.out y46 h.2)
            rw [hl] at hex hall
            obtain ⟨p, hp1, hp2, hp3, hp4⟩ := last_at a k (by omega) hex
            have hsh : Hid (Shared (lst a) (lst b) p) := hall p hp2 hp3 hp4
            have K29 := Try.strings_LastIndexByte (a.extract 0 k) 46 (by simp; omega)
            rw [hp1] at K29
            replace K29 := hid K29
            have hsl : ∀ w, (Instr.slice 9 (.string a) none (some (.int .i64 k)) none).run Try.prog w = .ok (.string (a.extract 0 k)) w := fun w => run_slice_string_h w 9 a Try.underlying9 .i64 k hk0 (by omega)
            generalize a.extract 0 k = u at *
            clear hl hex hall hp1 hp2 hp3 hp4
            go_wp2
            go_quiet (fail)
            go_wp2_with (go_at_call 29; refine keepW (K29.out _) ?_; rintro e rfl)
            go_ret
            exact ⟨⟨p, rfl, hsh.out⟩, drewn_more HW.out _⟩
      · have hqa : ((k : Int) == (a.size : Int)) = false := beq_eq_false_iff_ne.2 (by omega)
        have hka : k < a.size := by omega
        have hai : (k : Int) < (a.size : Int) := by omega
        have eb : k = b.size := by omega
        have EB : Hid (k = b.size) := eb
        have hqb : ((k : Int) == (b.size : Int)) = true := beq_iff_eq.2 (by omega)
        obtain ⟨x, hx⟩ : ∃ x : UInt8, a[k]'hka = x := ⟨_, rfl⟩
        have gx : Hid ((lst a)[k]? = some x) := by show _ = _; rw [lst_get a k hka, hx]
        clear ea eb hend2
        cases x46 : ((x.toNat : Int) == 46) with
        | true =>
          have hsh : Hid (Shared (lst a) (lst b) k) := by
            have := shared_bd DA.out.1 DA.out.2.2 (by rw [hl]; exact bd_dot gx.out x46) (by rw [hl]; exact bd_end EB.out)
            rw [hl] at this; exact this
          clear hl
          go_wp2
          go_quiet (fail)
          go_wp2
          go_ret
          exact ⟨⟨k, rfl, hsh.out⟩, drewn_more HW.out _⟩
        | false =>
          obtain ⟨hex, hall⟩ := shared_last DA.out.1 DA.out.2.1 (by rw [hl]; exact fun h => bd_not gx.out x46 h.1)
          rw [hl] at hex hall
          obtain ⟨p, hp1, hp2, hp3, hp4⟩ := last_at a k (by omega) hex
          have hsh : Hid (Shared (lst a) (lst b) p) := hall p hp2 hp3 hp4
          have K29 := Try.strings_LastIndexByte (a.extract 0 k) 46 (by simp; omega)
          rw [hp1] at K29
          replace K29 := hid K29
          have hsl : ∀ w, (Instr.slice 9 (.string a) none (some (.int .i64 k)) none).run Try.prog w = .ok (.string (a.extract 0 k)) w := fun w => run_slice_string_h w 9 a Try.underlying9 .i64 k hk0 (by omega)
          generalize a.extract 0 k = u at *
          clear hl hex hall hp1 hp2 hp3 hp4
          go_wp2
          go_quiet (fail)
          go_wp2_with (go_at_call 29; refine keepW (K29.out _) ?_; rintro e rfl)
          go_ret
          exact ⟨⟨p, rfl, hsh.out⟩, drewn_more HW.out _⟩

end Go.Proofs.Qxb6600888a
