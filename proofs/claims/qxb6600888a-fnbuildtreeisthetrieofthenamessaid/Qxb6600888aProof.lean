import Derived.Test.Qxb6600888aLaw
import Derived.Test.Qxb6600888aFrame
import Derived.Test.Qxb6600888aFacts
namespace Go.Proofs.Qxb6600888a
open Go.ChangeShapes Go.WideShapes Go.ChangeAt Go.RowKit
open Go.ChangeMaps (open_string shut_string)
set_option linter.unusedVariables false

theorem u32_range {a0 : Int} (h : (Lit.int .u32 a0).wf = true) : 0 ≤ a0 ∧ a0 < 4294967296 := by
  simp only [Lit.wf, Bool.and_eq_true, decide_eq_true_eq] at h
  have h1 : IntKind.u32.min = 0 := rfl
  have h2 : IntKind.u32.max = 4294967295 := rfl
  omega

set_option maxRecDepth 100000 in
theorem lifted3 (os : Os) (started : os.Started) (H : Type) (enc : TypeId × Value → H) :
    ReturnsInHanded {} Try.checked os 3 .any (Rows.fnBuildTreeIsTheTrieOfTheNamesSpec.pre6 enc Try.prog Try.f3 Rows.fnBuildTreeIsTheTrieOfTheNamesRow.domain false) (Rows.fnBuildTreeIsTheTrieOfTheNamesSpec.post enc Try.prog Try.f3 false true false false) := by
  refine returnsInHanded_of_change (C := Try.checked) own started (by kernel_rfl) Try.func3
    (ChangeSpec.witness6 (enc := enc) (C := Try.checked) false ⟨#[], #[.slice none 0 0, .slice none 0 0, .slice none 0 0], []⟩ 8 (by kernel_rfl) (by kernel_rfl) (by kernel_rfl) (by kernel_rfl)) ?_
  intro W base args ds gs before hval0 hW hcnd _
  have hval : ∀ (j : Nat) t v, Try.f3.params[j]? = some t → args[j]? = some v → Value.okWide Try.prog W .any base t v := hval0
  have hW' := hW
  obtain ⟨p, q, hA0, hV, rfl, hfz, hnd⟩ := hW
  have hA : DataW.TrodAll enc Try.prog W 0 (fun _ => true) true Try.f3.params.toList args.toList ds p := hA0
  rw [Try.params3] at hA hval
  have hlt : ∀ x ∈ p, x.block < W.heap.size := hA.lt
  obtain ⟨v0, vs0, d0, ds0, p0, q0, hargs, rfl, rfl, h0, r0⟩ := trodAll_cons hA
  obtain ⟨v1, vs1, d1, ds1, p1, q1, rfl, rfl, rfl, h1, r1⟩ := trodAll_cons r0
  obtain ⟨v2, vs2, d2, ds2, p2, q2, rfl, rfl, rfl, h2, r2⟩ := trodAll_cons r1
  obtain ⟨rfl, rfl, rfl⟩ := trodAll_nil r2
  obtain rfl : args = #[v0, v1, v2] := by cases args; simp_all
  obtain ⟨rfl, rfl⟩ := trodVars_none hV
  obtain ⟨a0, n0, c0, xs0, rfl, e0, m0, q0', k0, z0⟩ := open_strs_arg (okWide_slice Try.underlying22 (hval 0 22 v0 rfl rfl)) h0
  obtain ⟨a1, n1, c1, xs1, rfl, e1, m1, q1', k1, z1⟩ := open_u32s_arg (okWide_slice Try.underlying23 (hval 1 23 v1 rfl rfl)) h1
  obtain ⟨a2, n2, c2, xs2, rfl, e2, m2, q2', k2, z2⟩ := open_u32s_arg (okWide_slice Try.underlying23 (hval 2 23 v2 rfl rfl)) h2
  clear hA0 hval0
  refine (law3 a0 a1 a2 n0 c0 n1 c1 n2 c2 xs0 xs1 xs2 W ⟨e0, e1, e2, z0, z1, z2, k0, k1, k2, q0', fun c hc => u32_range (q1' c hc), fun c hc => u32_range (q2' c hc)⟩ m0 m1 m2).mono fun e W' ⟨he, hb⟩ => ?_
  subst he
  refine ⟨_, rfl, ?_⟩
  simp only [List.append_nil] at hW' hlt
  refine ⟨_, _, _, [], p0 ++ (p1 ++ (p2 ++ [])), [], hW', trodAll_cons_mk (shut_bool Try.underlying4 _) trodAll_mk0, ?_, rfl, hb.frame _, fun h => by cases h⟩
  exact trodAll_cons_mk (Below.trod laidOut (by kernel_rfl) (of_decide_eq_true (by kernel_rfl)) h0 hb (fun x hx => hlt x (by simp [hx])))
    (trodAll_cons_mk (Below.trod laidOut (by kernel_rfl) (of_decide_eq_true (by kernel_rfl)) h1 hb (fun x hx => hlt x (by simp [hx])))
    (trodAll_cons_mk (Below.trod laidOut (by kernel_rfl) (of_decide_eq_true (by kernel_rfl)) h2 hb (fun x hx => hlt x (by simp [hx])))
    (trodAll_mk0)))

theorem named3 : Try.prog.funcNamed Rows.fnBuildTreeIsTheTrieOfTheNamesRow.func = some 3 := by kernel_rfl
theorem instance3 : Try.f3.isInstance Try.prog Rows.fnBuildTreeIsTheTrieOfTheNamesRow.origin Rows.fnBuildTreeIsTheTrieOfTheNamesRow.targs := of_decide_eq_true (by kernel_rfl)
theorem wrapper3 : Try.f3.isWrapper Try.prog Rows.fnBuildTreeIsTheTrieOfTheNamesRow.wrapper Rows.fnBuildTreeIsTheTrieOfTheNamesRow.mainSum := by
  unfold Func.isWrapper; rw [if_neg (by decide +kernel)]; exact ⟨rfl, rfl⟩

theorem buildTreeIsTheTrie : Rows.FnBuildTreeIsTheTrieOfTheNamesSaid :=
  OpenClaim.holds_of_wide 3 Try.f3 rfl rfl rfl rfl rfl rfl rfl ⟨rfl, rfl, rfl, rfl, rfl⟩ rfl rfl rfl rfl rfl named3 Try.func3 factT instance3 wrapper3
    (fun os started H enc _ => lifted3 os started H enc)

end Go.Proofs.Qxb6600888a
