import Derived.Test.Qxb6600360aRows
import Derived.Test.Qxb6600360aShelf
import Derived.WalkKit
import Derived.WalkSpells
import Derived.WalkLawsBesides
import Derived.Deep.QuietTactic
import Derived.BigQuiet
import Derived.Below
import Derived.Laws.RangeAny
import Derived.Laws.RangeString
import Derived.Shelf.Strings.IndexAny
import Derived.Deep.LoopGhost
import Derived.Deep.DeepCutAuto
import Derived.WalkMore
import Derived.Laws.Runes
namespace Go.Proofs.Qxb6600360a
open Go.RowKit
set_option linter.unusedVariables false
set_option linter.unusedSimpArgs false

abbrev two : ByteArray := ⟨#[92, 38]⟩
theorem keepW {P : Program} {f : FuncId} {args : Array Value} {w : World} {A : Ending → Prop} {R : Ending → World → Prop} (h : Calls P f args w fun e w' => A e ∧ w' = w) (k : ∀ e, A e → R e w) : Calls P f args w R :=
  h.mono fun e w' ⟨ha, hw⟩ => by subst hw; exact k e ha

theorem at_world {c : Code} {P : Program} {Q : Exit → Act → World → Prop} {a : Act} {w : World} (R : World → Prop) (h : R w) (k : ∀ w', R w' → c.wp P Q a w') : c.wp P Q a w := k w h
theorem below_iter (w : World) (s : ByteArray) (i : Nat) : Below w.heap.size w (w.iter s i) := (Below.refl _ _).alloc (Nat.le_refl _) _

set_option maxHeartbeats 2000000 in
set_option maxRecDepth 1000000 in
theorem indexRune_error (s : ByteArray) (w : World) (hs : s.size ≤ 1048576) (hascii : ∀ (j : Nat) b, s.data.toList[j]? = some b → b.toNat < 128) :
    Calls Try.prog 20 #[.string s, .int .i32 65533] w fun e w' => e = .returned (.int .i64 (-1)) ∧ Below w.heap.size w w' := by
  have HA : Hid (∀ (j : Nat) b, s.data.toList[j]? = some b → b.toNat < 128) := hascii
  clear hascii
  go_enter Try.func20, Try.ntmps20
  go_wp2_with fail
  go_loopg [5, 6] s.size (fun g _ _ wx => ∃ i : Nat, i + g = s.size ∧ wx = w.iter s i)
  case atStart => exact ⟨0, by omega, rfl⟩
  case round =>
    obtain ⟨i, hig, rfl⟩ := hrel
    cases gk with
    | zero =>
      obtain rfl : i = s.size := by omega
      have hnx := run_next_end (P := Try.prog) w s s.size
      go_wp2
      go_ret
      exact ⟨rfl, below_iter w s _⟩
    | succ g =>
      have hi : i < s.size := by omega
      obtain ⟨x, hx⟩ : ∃ x : UInt8, s[i]'hi = x := ⟨_, rfl⟩
      have hxl : s.data.toList[i]? = some x := by rw [← hx]; exact Lib.data_getElem? s i hi
      have hx128 : x.toNat < 128 := HA.out i x hxl
      have hnx := fun ty => run_next_ascii (P := Try.prog) w s i ty hi (by rw [hx]; exact hx128)
      rw [hx] at hnx
      have hne : ((x.toNat : Int) == 65533) = false := by simp; omega
      clear hxl hx
      go_wp2
      go_roundg g
      case measure => omega
      case rel => exact ⟨i + 1, by omega, rfl⟩

set_option maxHeartbeats 2000000 in
set_option maxRecDepth 1000000 in
theorem indexRune_invalid (s : ByteArray) (r : Int) (w : World) (hs : s.size ≤ 1048576) (h : 128 ≤ r) (hne : r ≠ 65533) (hv : Lib.validRune r = false) :
    Calls Try.prog 20 #[.string s, .int .i32 r] w fun e w' => e = .returned (.int .i64 (-1)) ∧ Below w.heap.size w w' := by
  have hb : (r == 65533) = false := by simpa using hne
  have K := Try.utf8_ValidRune r
  rw [hv] at K
  replace K := hid K
  clear hv
  go_enter Try.func20, Try.ntmps20
  go_wp2_with (go_at_call 25; refine keepW (K.out _) ?_; rintro e rfl)
  go_ret
  exact ⟨rfl, Below.refl _ _⟩

set_option maxHeartbeats 4000000 in
set_option maxRecDepth 1000000 in
theorem indexRune_valid (s : ByteArray) (r : Int) (w : World) (hs : s.size = 2) (hascii : ∀ (j : Nat) b, s.data.toList[j]? = some b → b.toNat < 128) (h : 128 ≤ r) (h' : r ≤ 1114111) (hne : r ≠ 65533) (hv : Lib.validRune r = true) (hu : Utf8.valid r = true) :
    Calls Try.prog 20 #[.string s, .int .i32 r] w fun e w' => e = .returned (.int .i64 (-1)) ∧ Below w.heap.size w w' := by
  have hb : (r == 65533) = false := by simpa using hne
  have K := Try.utf8_ValidRune r
  rw [hv] at K
  replace K := hid K
  obtain ⟨f1, f2, f3⟩ := encode_facts r hu h
  have hcv : ∀ w, (convert 21 9 (.int .i32 r)).run Try.prog w = .ok (.string (Utf8.encode r)) w := fun w => run_convert_int_string w 21 9 .i32 r (by rw [Try.underlying21]; rfl) Try.underlying9
  generalize Utf8.encode r = T at *
  clear hv hu
  by_cases h3 : 3 ≤ T.size
  · have g1 : ¬ ((T.size : Int) - 1) < 2 := by omega
    clear f3
    go_enter Try.func20, Try.ntmps20
    go_wp2_with (go_at_call 25; refine keepW (K.out _) ?_; rintro e rfl)
    go_step3
    go_wp2_with fail
    refine wp_loop_rounds 1 ?_
    rw [rounds_succ]
    go_wp2_with fail
    rw [Exit.noGoto_ret]
    go_ret
    exact ⟨rfl, Below.refl _ _⟩
  · have hT : T.size = 2 := by omega
    have hx1 : 1 < s.size := by omega
    have hy1 : 1 < T.size := by omega
    obtain ⟨x, hx⟩ : ∃ x : UInt8, s[1]'hx1 = x := ⟨_, rfl⟩
    obtain ⟨y, hy⟩ : ∃ y : UInt8, T[1]'hy1 = y := ⟨_, rfl⟩
    have hxl : x.toNat < 128 := hascii 1 x (by rw [← hx]; exact Lib.data_getElem? s 1 hx1)
    have hyl : 128 ≤ y.toNat := by
      have := f3 (by omega)
      simp only [hT] at this
      rw [← hy]; exact this
    have hxy : ((x.toNat : Int) == (y.toNat : Int)) = false := by simp; omega
    have KB : Hid (∀ (t : ByteArray) (w : World), t.size = 0 → Calls Try.prog 24 #[.string t, .int .u8 (y.toNat : Int)] w fun e w' => e = .returned (.int .i64 (-1)) ∧ w' = w) := by
      intro t w ht
      have e : t.data.toList = [] := by apply List.eq_nil_of_length_eq_zero; simpa using ht
      have := Try.strings_IndexByte t (y.toNat : Int) w
      rw [e] at this
      exact this
    have hw2 : IntKind.i64.wrap 2 = 2 := by decide
    have hsl : ∀ w, (Instr.slice 9 (.string s) (some (.int .i64 2)) none none).run Try.prog w = .ok (.string (s.extract 2 s.size)) w := fun w => run_slice_string_l w 9 s Try.underlying9 .i64 2 (by omega) (by omega)
    clear f1 f2 f3 h3 hascii
    go_enter Try.func20, Try.ntmps20
    go_wp2_with (go_at_call 25; refine keepW (K.out _) ?_; rintro e rfl)
    go_step3
    go_wp2_with fail
    refine wp_loop_rounds 1 ?_
    rw [rounds_succ]
    go_wp2_with fail
    go_step3
    go_wp2_with fail
    go_quiet (fail)
    go_wp2_with fail
    refine at_world (fun wa => Below w.heap.size w wa) (below_drewN (Below.refl _ _) _) ?_
    intro wa hba
    replace hba := hid hba
    go_quiet ((go_at_call 24; exact Calls.quiet_of_same (KB.out ByteArray.empty _ rfl)))
    go_wp2_with fail
    repeat (first | rw [Exit.noGoto_ret] | simp only [Exit.inBlock, Exit.then])
    go_ret
    exact ⟨rfl, below_drewN hba.out _⟩

end Go.Proofs.Qxb6600360a
