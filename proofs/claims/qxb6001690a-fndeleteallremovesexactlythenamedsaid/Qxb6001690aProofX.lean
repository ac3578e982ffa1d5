import Derived.Test.Qxb6001690aLawX
import Derived.Test.Qxb6001690aFrame
import Derived.Test.Qxb6001690aFactsX
namespace Go.Proofs.Qxb6001690a
open Go.ChangeShapes Go.WideShapes Go.ChangeAt Go.RowKit
open Go.ChangeMaps (open_string shut_string)
set_option linter.unusedVariables false

set_option maxRecDepth 100000 in
theorem lifted11 (os : Os) (started : os.Started) (H : Type) (enc : TypeId × Value → H) :
    ReturnsInHanded {} Try.checked os 11 .any (Rows.fnDeleteAllRemovesExactlyTheNamedSpec.pre6 enc Try.prog Try.f11 Rows.fnDeleteAllRemovesExactlyTheNamedRow.domain false) (Rows.fnDeleteAllRemovesExactlyTheNamedSpec.post enc Try.prog Try.f11 false true false false) := by
  refine returnsInHanded_of_change (C := Try.checked) own started (by kernel_rfl) Try.func11
    (ChangeSpec.witness6 (enc := enc) (C := Try.checked) false ⟨#[], #[.slice none 0 0, .slice none 0 0, .int .u8 0, .bool false, .int .i64 0, .slice none 0 0, .string ByteArray.empty], []⟩ 8 (by kernel_rfl) (by kernel_rfl) (by kernel_rfl) (by kernel_rfl)) ?_
  intro W base args ds gs before hval0 hW hcnd _
  have hval : ∀ (j : Nat) t v, Try.f11.params[j]? = some t → args[j]? = some v → Value.okWide Try.prog W .any base t v := hval0
  have hW' := hW
  obtain ⟨p, q, hA0, hV, rfl, hfz, hnd⟩ := hW
  have hA : DataW.TrodAll enc Try.prog W 0 (fun _ => true) true Try.f11.params.toList args.toList ds p := hA0
  rw [Try.params11] at hA hval
  have hlt : ∀ x ∈ p, x.block < W.heap.size := hA.lt
  obtain ⟨v0, vs0, d0, ds0, p0, q0, hargs, rfl, rfl, h0, r0⟩ := trodAll_cons hA
  obtain ⟨v1, vs1, d1, ds1, p1, q1, rfl, rfl, rfl, h1, r1⟩ := trodAll_cons r0
  obtain ⟨v2, vs2, d2, ds2, p2, q2, rfl, rfl, rfl, h2, r2⟩ := trodAll_cons r1
  obtain ⟨v3, vs3, d3, ds3, p3, q3, rfl, rfl, rfl, h3, r3⟩ := trodAll_cons r2
  obtain ⟨v4, vs4, d4, ds4, p4, q4, rfl, rfl, rfl, h4, r4⟩ := trodAll_cons r3
  obtain ⟨v5, vs5, d5, ds5, p5, q5, rfl, rfl, rfl, h5, r5⟩ := trodAll_cons r4
  obtain ⟨v6, vs6, d6, ds6, p6, q6, rfl, rfl, rfl, h6, r6⟩ := trodAll_cons r5
  obtain ⟨rfl, rfl, rfl⟩ := trodAll_nil r6
  obtain rfl : args = #[v0, v1, v2, v3, v4, v5, v6] := by cases args; simp_all
  obtain ⟨rfl, rfl⟩ := trodVars_none hV
  obtain ⟨a0, n0, c0, xs0, rfl, e0, m0, q0', k0, z0⟩ := open_strs_arg (okWide_slice Try.underlying22 (hval 0 22 v0 rfl rfl)) h0
  obtain ⟨a1, n1, c1, xs1, rfl, e1, m1, q1', k1, z1⟩ := open_strs_arg (okWide_slice Try.underlying22 (hval 1 22 v1 rfl rfl)) h1
  obtain ⟨a2, rfl, rfl, rfl, w2⟩ := open_int Try.underlying5 (hval 2 5 v2 rfl rfl) h2
  obtain ⟨a3, rfl, rfl, rfl⟩ := open_bool Try.underlying4 (hval 3 4 v3 rfl rfl) h3
  obtain ⟨a4, rfl, rfl, rfl, w4⟩ := open_int Try.underlying3 (hval 4 3 v4 rfl rfl) h4
  obtain ⟨a5, n5, c5, xs5, rfl, e5, m5, q5', k5, z5⟩ := open_ints_arg (okWide_slice Try.underlying45 (hval 5 45 v5 rfl rfl)) h5
  obtain ⟨a6, rfl, rfl, rfl, w6⟩ := open_string Try.underlying9 (hval 6 9 v6 rfl rfl) h6
  clear hA0 hval0
  refine (lawX a0 a1 a5 n0 n1 n5 c0 c1 c5 xs0 xs1 xs5 a2 a4 a3 a6 W e0 e1 e5 m0 m1 m5 q0' q1' q5' w4 w6 k0 k1 k5 z0 z1 z5).mono fun e W' ⟨he, hb⟩ => ?_
  subst he
  refine ⟨_, rfl, ?_⟩
  simp only [List.append_nil] at hW' hlt
  refine ⟨_, _, _, [], p0 ++ (p1 ++ ([] ++ ([] ++ ([] ++ (p5 ++ ([] ++ [])))))), [], hW', trodAll_cons_mk (shut_bool Try.underlying4 _) trodAll_mk0, ?_, rfl, hb.frame _, fun h => by cases h⟩
  exact trodAll_cons_mk (Below.trod laidOut (by kernel_rfl) (of_decide_eq_true (by kernel_rfl)) h0 hb (fun x hx => hlt x (by simp [hx])))
    (trodAll_cons_mk (Below.trod laidOut (by kernel_rfl) (of_decide_eq_true (by kernel_rfl)) h1 hb (fun x hx => hlt x (by simp [hx])))
    (trodAll_cons_mk (shut_int Try.underlying5 w2)
    (trodAll_cons_mk (shut_bool Try.underlying4 _)
    (trodAll_cons_mk (shut_int Try.underlying3 w4)
    (trodAll_cons_mk (Below.trod laidOut (by kernel_rfl) (of_decide_eq_true (by kernel_rfl)) h5 hb (fun x hx => hlt x (by simp [hx])))
    (trodAll_cons_mk (shut_string Try.underlying9 w6)
    (trodAll_mk0)))))))

theorem named11 : Try.prog.funcNamed Rows.fnDeleteAllRemovesExactlyTheNamedRow.func = some 11 := by kernel_rfl
theorem instance11 : Try.f11.isInstance Try.prog Rows.fnDeleteAllRemovesExactlyTheNamedRow.origin Rows.fnDeleteAllRemovesExactlyTheNamedRow.targs := of_decide_eq_true (by kernel_rfl)
theorem wrapper11 : Try.f11.isWrapper Try.prog Rows.fnDeleteAllRemovesExactlyTheNamedRow.wrapper Rows.fnDeleteAllRemovesExactlyTheNamedRow.mainSum := by
  unfold Func.isWrapper; rw [if_neg (by decide +kernel)]; exact ⟨rfl, rfl⟩

theorem deleteAllRemovesExactly : Rows.FnDeleteAllRemovesExactlyTheNamedSaid :=
  OpenClaim.holds_of_wide 11 Try.f11 rfl rfl rfl rfl rfl rfl rfl ⟨rfl, rfl, rfl, rfl, rfl⟩ rfl rfl rfl rfl rfl named11 Try.func11 factX instance11 wrapper11
    (fun os started H enc _ => lifted11 os started H enc)

end Go.Proofs.Qxb6001690a
