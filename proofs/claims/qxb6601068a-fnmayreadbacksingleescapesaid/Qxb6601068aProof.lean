import Derived.Test.Qxb6601068aLaw2
import Derived.Test.Qxb6601068aFacts
import Derived.ProofKit
import Derived.OpenShut
import Derived.ShutString
import Derived.HandedShaped
namespace Go.Proofs.Qxb6601068a
open Go.ChangeShapes Go.WideShapes Go.ChangeAt Go.RowKit
set_option linter.unusedVariables false

theorem own : ownKnob Try.prog.godebug = none := by kernel_rfl
theorem u16_range {a0 : Int} (h : (Lit.int .u16 a0).wf = true) : 0 ≤ a0 ∧ a0 ≤ 65535 := by
  simp only [Lit.wf, Bool.and_eq_true, decide_eq_true_eq] at h
  have h1 : IntKind.u16.min = 0 := rfl
  have h2 : IntKind.u16.max = 65535 := rfl
  omega

set_option maxRecDepth 100000 in
theorem lifted9 (os : Os) (started : os.Started) (H : Type) (enc : TypeId × Value → H) :
    ReturnsInHanded {} Try.checked os 9 .any (Rows.fnMayReadBackSingleEscapeSpec.pre6 enc Try.prog Try.f9 Rows.fnMayReadBackSingleEscapeRow.domain false) (Rows.fnMayReadBackSingleEscapeSpec.post enc Try.prog Try.f9 false true false false) := by
  refine returnsInHanded_of_change_shaped (C := Try.checked) own started (by kernel_rfl) Try.func9
    (ChangeSpec.witness6 (enc := enc) (C := Try.checked) false ⟨#[], #[.int .u16 0, .bool false], []⟩ 8 (by kernel_rfl) (by kernel_rfl) (by kernel_rfl) (by kernel_rfl)) ?_
  intro W base args ds gs before hval0 hW hcnd _ hsh _
  have hval : ∀ (j : Nat) t v, Try.f9.params[j]? = some t → args[j]? = some v → Value.okWide Try.prog W .any base t v := hval0
  have hW' := hW
  obtain ⟨p, q, hA0, hV, rfl, hfz, hnd⟩ := hW
  have hA : DataW.TrodAll enc Try.prog W 0 (fun _ => true) true Try.f9.params.toList args.toList ds p := hA0
  rw [Try.params9] at hA hval
  obtain ⟨v0, vs0, d0, ds0, p0, q0, hargs, rfl, rfl, h0, r0⟩ := trodAll_cons hA
  obtain ⟨v1, vs1, d1, ds1, p1, q1, rfl, rfl, rfl, h1, r1⟩ := trodAll_cons r0
  obtain ⟨rfl, rfl, rfl⟩ := trodAll_nil r1
  obtain rfl : args = #[v0, v1] := by cases args; simp_all
  obtain ⟨rfl, rfl⟩ := trodVars_none hV
  obtain ⟨a0, rfl, rfl, rfl, w0⟩ := open_int Try.underlying36 (hval 0 36 v0 rfl rfl) h0
  obtain ⟨a1, rfl, rfl, rfl⟩ := open_bool Try.underlying4 (hval 1 4 v1 rfl rfl) h1
  clear hA0 hval0
  simp only [List.append_nil] at hW'
  obtain ⟨m, hm⟩ := Try.laysM186.s1_3 W hsh
  have hr := u16_range w0
  have law : Calls Try.prog 9 #[.int .u16 a0, .bool a1] W fun e w' => e = .returned (.bool true) ∧ Below W.heap.size W w' := by
    cases a1 with
    | true => exact law_true a0 m W hr.1 hr.2 hm
    | false => exact law_false a0 m W hr.1 hr.2 hm
  refine law.mono fun e W' ⟨he, hb⟩ => ?_
  subst he
  refine ⟨_, rfl, ?_⟩
  refine ⟨_, _, _, [], [] ++ ([] ++ []), [], hW', trodAll_cons_mk (shut_bool Try.underlying4 _) trodAll_mk0, ?_, rfl, hb.frame _, fun h => by cases h⟩
  exact trodAll_cons_mk (shut_int Try.underlying36 w0) (trodAll_cons_mk (shut_bool Try.underlying4 _) trodAll_mk0)

theorem named9 : Try.prog.funcNamed Rows.fnMayReadBackSingleEscapeRow.func = some 9 := by kernel_rfl
theorem instance9 : Try.f9.isInstance Try.prog Rows.fnMayReadBackSingleEscapeRow.origin Rows.fnMayReadBackSingleEscapeRow.targs := of_decide_eq_true (by kernel_rfl)
theorem wrapper9 : Try.f9.isWrapper Try.prog Rows.fnMayReadBackSingleEscapeRow.wrapper Rows.fnMayReadBackSingleEscapeRow.mainSum := by
  unfold Func.isWrapper; rw [if_neg (by decide +kernel)]; exact ⟨rfl, rfl⟩

theorem mayReadBackSingleEscape : Rows.FnMayReadBackSingleEscapeSaid :=
  OpenClaim.holds_of_wide 9 Try.f9 rfl rfl rfl rfl rfl rfl rfl ⟨rfl, rfl, rfl, rfl, rfl⟩ rfl rfl rfl rfl rfl named9 Try.func9 factE instance9 wrapper9
    (fun os started H enc _ => lifted9 os started H enc)

end Go.Proofs.Qxb6601068a
