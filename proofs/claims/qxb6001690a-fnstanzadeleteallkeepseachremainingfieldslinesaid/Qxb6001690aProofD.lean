import Derived.Test.Qxb6001690aLawD
import Derived.Test.Qxb6001690aFrame
import Derived.Test.Qxb6001690aFactsD
namespace Go.Proofs.Qxb6001690a
open Go.ChangeShapes Go.WideShapes Go.ChangeAt Go.RowKit
open Go.ChangeMaps (open_string shut_string)
set_option linter.unusedVariables false

set_option maxRecDepth 100000 in
theorem lifted14 (os : Os) (started : os.Started) (H : Type) (enc : TypeId × Value → H) :
    ReturnsInHanded {} Try.checked os 14 .any (Rows.fnStanzaDeleteAllKeepsEachRemainingFieldsLineSpec.pre6 enc Try.prog Try.f14 Rows.fnStanzaDeleteAllKeepsEachRemainingFieldsLineRow.domain false) (Rows.fnStanzaDeleteAllKeepsEachRemainingFieldsLineSpec.post enc Try.prog Try.f14 false true false false) := by
  refine returnsInHanded_of_change (C := Try.checked) own started (by kernel_rfl) Try.func14
    (ChangeSpec.witness6 (enc := enc) (C := Try.checked) false ⟨#[], #[.slice none 0 0, .slice none 0 0, .int .i64 0, .slice none 0 0, .string ByteArray.empty, .string ByteArray.empty], []⟩ 8 (by kernel_rfl) (by kernel_rfl) (by kernel_rfl) (by kernel_rfl)) ?_
  intro W base args ds gs before hval0 hW hcnd _
  have hval : ∀ (j : Nat) t v, Try.f14.params[j]? = some t → args[j]? = some v → Value.okWide Try.prog W .any base t v := hval0
  have hW' := hW
  obtain ⟨p, q, hA0, hV, rfl, hfz, hnd⟩ := hW
  have hA : DataW.TrodAll enc Try.prog W 0 (fun _ => true) true Try.f14.params.toList args.toList ds p := hA0
  rw [Try.params14] at hA hval
  have hlt : ∀ x ∈ p, x.block < W.heap.size := hA.lt
  obtain ⟨v0, vs0, d0, ds0, p0, q0, hargs, rfl, rfl, h0, r0⟩ := trodAll_cons hA
  obtain ⟨v1, vs1, d1, ds1, p1, q1, rfl, rfl, rfl, h1, r1⟩ := trodAll_cons r0
  obtain ⟨v2, vs2, d2, ds2, p2, q2, rfl, rfl, rfl, h2, r2⟩ := trodAll_cons r1
  obtain ⟨v3, vs3, d3, ds3, p3, q3, rfl, rfl, rfl, h3, r3⟩ := trodAll_cons r2
  obtain ⟨v4, vs4, d4, ds4, p4, q4, rfl, rfl, rfl, h4, r4⟩ := trodAll_cons r3
  obtain ⟨v5, vs5, d5, ds5, p5, q5, rfl, rfl, rfl, h5, r5⟩ := trodAll_cons r4
  obtain ⟨rfl, rfl, rfl⟩ := trodAll_nil r5
  obtain rfl : args = #[v0, v1, v2, v3, v4, v5] := by cases args; simp_all
  obtain ⟨rfl, rfl⟩ := trodVars_none hV
  obtain ⟨a0, n0, c0, xs0, rfl, e0, m0, q0', k0, z0⟩ := open_strs_arg (okWide_slice Try.underlying22 (hval 0 22 v0 rfl rfl)) h0
  obtain ⟨a1, n1, c1, xs1, rfl, e1, m1, q1', k1, z1⟩ := open_strs_arg (okWide_slice Try.underlying22 (hval 1 22 v1 rfl rfl)) h1
  obtain ⟨a2, rfl, rfl, rfl, w2⟩ := open_int Try.underlying3 (hval 2 3 v2 rfl rfl) h2
  obtain ⟨a3, n3, c3, xs3, rfl, e3, m3, q3', k3, z3⟩ := open_ints_arg (okWide_slice Try.underlying45 (hval 3 45 v3 rfl rfl)) h3
  obtain ⟨a4, rfl, rfl, rfl, w4⟩ := open_string Try.underlying9 (hval 4 9 v4 rfl rfl) h4
  obtain ⟨a5, rfl, rfl, rfl, w5⟩ := open_string Try.underlying9 (hval 5 9 v5 rfl rfl) h5
  clear hA0 hval0
  refine (lawD a0 a1 a3 n0 n1 n3 c0 c1 c3 xs0 xs1 xs3 a2 a4 a5 W e0 e1 e3 m0 m1 m3 q0' q1' q3' w2 w4 w5 k0 k1 k3 z0 z1 z3).mono fun e W' ⟨he, hb⟩ => ?_
  subst he
  refine ⟨_, rfl, ?_⟩
  simp only [List.append_nil] at hW' hlt
  refine ⟨_, _, _, [], p0 ++ (p1 ++ ([] ++ (p3 ++ ([] ++ ([] ++ []))))), [], hW', trodAll_cons_mk (shut_bool Try.underlying4 _) trodAll_mk0, ?_, rfl, hb.frame _, fun h => by cases h⟩
  exact trodAll_cons_mk (Below.trod laidOut (by kernel_rfl) (of_decide_eq_true (by kernel_rfl)) h0 hb (fun x hx => hlt x (by simp [hx])))
    (trodAll_cons_mk (Below.trod laidOut (by kernel_rfl) (of_decide_eq_true (by kernel_rfl)) h1 hb (fun x hx => hlt x (by simp [hx])))
    (trodAll_cons_mk (shut_int Try.underlying3 w2)
    (trodAll_cons_mk (Below.trod laidOut (by kernel_rfl) (of_decide_eq_true (by kernel_rfl)) h3 hb (fun x hx => hlt x (by simp [hx])))
    (trodAll_cons_mk (shut_string Try.underlying9 w4)
    (trodAll_cons_mk (shut_string Try.underlying9 w5)
    (trodAll_mk0))))))

theorem named14 : Try.prog.funcNamed Rows.fnStanzaDeleteAllKeepsEachRemainingFieldsLineRow.func = some 14 := by kernel_rfl
theorem instance14 : Try.f14.isInstance Try.prog Rows.fnStanzaDeleteAllKeepsEachRemainingFieldsLineRow.origin Rows.fnStanzaDeleteAllKeepsEachRemainingFieldsLineRow.targs := of_decide_eq_true (by kernel_rfl)
theorem wrapper14 : Try.f14.isWrapper Try.prog Rows.fnStanzaDeleteAllKeepsEachRemainingFieldsLineRow.wrapper Rows.fnStanzaDeleteAllKeepsEachRemainingFieldsLineRow.mainSum := by
  unfold Func.isWrapper; rw [if_neg (by decide +kernel)]; exact ⟨rfl, rfl⟩

theorem stanzaDeleteAllKeepsLines : Rows.FnStanzaDeleteAllKeepsEachRemainingFieldsLineSaid :=
  OpenClaim.holds_of_wide 14 Try.f14 rfl rfl rfl rfl rfl rfl rfl ⟨rfl, rfl, rfl, rfl, rfl⟩ rfl rfl rfl rfl rfl named14 Try.func14 factD instance14 wrapper14
    (fun os started H enc _ => lifted14 os started H enc)

end Go.Proofs.Qxb6001690a
