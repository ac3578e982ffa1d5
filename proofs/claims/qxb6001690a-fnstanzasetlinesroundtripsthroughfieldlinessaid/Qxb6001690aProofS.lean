import Derived.Test.Qxb6001690aLawS
import Derived.Test.Qxb6001690aFrame
import Derived.Test.Qxb6001690aFactsS
namespace Go.Proofs.Qxb6001690a
open Go.ChangeShapes Go.WideShapes Go.ChangeAt Go.RowKit
open Go.ChangeMaps (open_string shut_string)
set_option linter.unusedVariables false

set_option maxRecDepth 100000 in
theorem lifted13 (os : Os) (started : os.Started) (H : Type) (enc : TypeId × Value → H) :
    ReturnsInHanded {} Try.checked os 13 .any (Rows.fnStanzaSetLinesRoundTripsThroughFieldLinesSpec.pre6 enc Try.prog Try.f13 Rows.fnStanzaSetLinesRoundTripsThroughFieldLinesRow.domain false) (Rows.fnStanzaSetLinesRoundTripsThroughFieldLinesSpec.post enc Try.prog Try.f13 false true false false) := by
  refine returnsInHanded_of_change (C := Try.checked) own started (by kernel_rfl) Try.func13
    (ChangeSpec.witness6 (enc := enc) (C := Try.checked) false ⟨#[], #[.slice none 0 0, .int .i64 0, .slice none 0 0, .bool false], []⟩ 8 (by kernel_rfl) (by kernel_rfl) (by kernel_rfl) (by kernel_rfl)) ?_
  intro W base args ds gs before hval0 hW hcnd _
  have hval : ∀ (j : Nat) t v, Try.f13.params[j]? = some t → args[j]? = some v → Value.okWide Try.prog W .any base t v := hval0
  have hW' := hW
  obtain ⟨p, q, hA0, hV, rfl, hfz, hnd⟩ := hW
  have hA : DataW.TrodAll enc Try.prog W 0 (fun _ => true) true Try.f13.params.toList args.toList ds p := hA0
  rw [Try.params13] at hA hval
  have hlt : ∀ x ∈ p, x.block < W.heap.size := hA.lt
  obtain ⟨v0, vs0, d0, ds0, p0, q0, hargs, rfl, rfl, h0, r0⟩ := trodAll_cons hA
  obtain ⟨v1, vs1, d1, ds1, p1, q1, rfl, rfl, rfl, h1, r1⟩ := trodAll_cons r0
  obtain ⟨v2, vs2, d2, ds2, p2, q2, rfl, rfl, rfl, h2, r2⟩ := trodAll_cons r1
  obtain ⟨v3, vs3, d3, ds3, p3, q3, rfl, rfl, rfl, h3, r3⟩ := trodAll_cons r2
  obtain ⟨rfl, rfl, rfl⟩ := trodAll_nil r3
  obtain rfl : args = #[v0, v1, v2, v3] := by cases args; simp_all
  obtain ⟨rfl, rfl⟩ := trodVars_none hV
  obtain ⟨a0, n0, c0, xs0, rfl, e0, m0, q0', k0, z0⟩ := open_strs_arg (okWide_slice Try.underlying22 (hval 0 22 v0 rfl rfl)) h0
  obtain ⟨a1, rfl, rfl, rfl, w1⟩ := open_int Try.underlying3 (hval 1 3 v1 rfl rfl) h1
  obtain ⟨a2, n2, c2, xs2, rfl, e2, m2, q2', k2, z2⟩ := open_ints_arg (okWide_slice Try.underlying45 (hval 2 45 v2 rfl rfl)) h2
  obtain ⟨a3, rfl, rfl, rfl⟩ := open_bool Try.underlying4 (hval 3 4 v3 rfl rfl) h3
  clear hA0 hval0
  refine (lawS a0 a2 n0 n2 c0 c2 xs0 xs2 a1 a3 W e0 e2 m0 m2 q0' q2' w1 k0 k2 z0 z2).mono fun e W' ⟨he, hb⟩ => ?_
  subst he
  refine ⟨_, rfl, ?_⟩
  simp only [List.append_nil] at hW' hlt
  refine ⟨_, _, _, [], p0 ++ ([] ++ (p2 ++ ([] ++ []))), [], hW', trodAll_cons_mk (shut_bool Try.underlying4 _) trodAll_mk0, ?_, rfl, hb.frame _, fun h => by cases h⟩
  exact trodAll_cons_mk (Below.trod laidOut (by kernel_rfl) (of_decide_eq_true (by kernel_rfl)) h0 hb (fun x hx => hlt x (by simp [hx])))
    (trodAll_cons_mk (shut_int Try.underlying3 w1)
    (trodAll_cons_mk (Below.trod laidOut (by kernel_rfl) (of_decide_eq_true (by kernel_rfl)) h2 hb (fun x hx => hlt x (by simp [hx])))
    (trodAll_cons_mk (shut_bool Try.underlying4 _)
    (trodAll_mk0))))

theorem named13 : Try.prog.funcNamed Rows.fnStanzaSetLinesRoundTripsThroughFieldLinesRow.func = some 13 := by kernel_rfl
theorem instance13 : Try.f13.isInstance Try.prog Rows.fnStanzaSetLinesRoundTripsThroughFieldLinesRow.origin Rows.fnStanzaSetLinesRoundTripsThroughFieldLinesRow.targs := of_decide_eq_true (by kernel_rfl)
theorem wrapper13 : Try.f13.isWrapper Try.prog Rows.fnStanzaSetLinesRoundTripsThroughFieldLinesRow.wrapper Rows.fnStanzaSetLinesRoundTripsThroughFieldLinesRow.mainSum := by
  unfold Func.isWrapper; rw [if_neg (by decide +kernel)]; exact ⟨rfl, rfl⟩

theorem stanzaSetLinesRoundTrips : Rows.FnStanzaSetLinesRoundTripsThroughFieldLinesSaid :=
  OpenClaim.holds_of_wide 13 Try.f13 rfl rfl rfl rfl rfl rfl rfl ⟨rfl, rfl, rfl, rfl, rfl⟩ rfl rfl rfl rfl rfl named13 Try.func13 factS instance13 wrapper13
    (fun os started H enc _ => lifted13 os started H enc)

end Go.Proofs.Qxb6001690a
