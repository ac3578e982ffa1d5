import Derived.Test.Qxb6601068aRows
import Derived.Test.Qxb6601068aShelf
import Derived.WalkKit
import Derived.WalkSpells
import Derived.WalkLawsBesides
import Derived.Deep.QuietTactic
import Derived.BigQuiet
import Derived.BigRegion
import Derived.Below
import Derived.Laws.BytesArg
import Derived.Lib.SlBytesConst
namespace Go.Proofs.Qxb6601068a
open Go.RowKit
set_option linter.unusedVariables false
set_option linter.unusedSimpArgs false

/-- The four digits as a string. -/
def four (d : List Int) : ByteArray := d.foldl (fun r n => r.push (UInt8.ofNat n.toNat)) ByteArray.empty

theorem load4 (b o : Nat) (h3 h2 h1 h0 : Int) (w : World)
    (c0 : w.cell? ⟨b, o, none⟩ = some (.int .u8 h3)) (c1 : w.cell? ⟨b, o + 1, none⟩ = some (.int .u8 h2)) (c2 : w.cell? ⟨b, o + 2, none⟩ = some (.int .u8 h1)) (c3 : w.cell? ⟨b, o + 3, none⟩ = some (.int .u8 h0)) :
    (loadCells ⟨b, o, none⟩ 4).run Try.prog w = .ok ([h3, h2, h1, h0].map (Value.int .u8)).toArray w := by
  have := run_loadCells_list (P := Try.prog) w ⟨b, o, none⟩ ([h3, h2, h1, h0].map (Value.int .u8)) (fun j v hv => by
    rw [Lib.add_plain' b o j]
    match j, hv with
    | 0, hv => simp at hv; subst hv; exact c0
    | 1, hv => simp at hv; subst hv; exact c1
    | 2, hv => simp at hv; subst hv; exact c2
    | 3, hv => simp at hv; subst hv; exact c3
    | j + 4, hv => simp at hv)
  simpa using this

set_option maxHeartbeats 1000000 in
theorem valid_any (b o c : Nat) (h3 h2 h1 h0 : Int) (w : World) (b1 b2 b3 b4 b5 t3 t2 t0 t1 : Bool) (hc : 4 ≤ c)
    (c0 : w.cell? ⟨b, o, none⟩ = some (.int .u8 h3)) (c1 : w.cell? ⟨b, o + 1, none⟩ = some (.int .u8 h2)) (c2 : w.cell? ⟨b, o + 2, none⟩ = some (.int .u8 h1)) (c3 : w.cell? ⟨b, o + 3, none⟩ = some (.int .u8 h0))
    (e1 : ((four [h3, h2, h1, h0]).toList == [48, 48, 51, 99]) = b1) (e2 : ((four [h3, h2, h1, h0]).toList == [48, 48, 51, 101]) = b2) (e3 : ((four [h3, h2, h1, h0]).toList == [48, 48, 50, 54]) = b3) (e4 : ((four [h3, h2, h1, h0]).toList == [50, 48, 50, 56]) = b4) (e5 : ((four [h3, h2, h1, h0]).toList == [50, 48, 50, 57]) = b5)
    (f3 : (h3 == 48) = t3) (f2 : (h2 == 48) = t2) (f1 : (h1 == 48) = t0) (f0 : (h1 == 49) = t1) :
    Calls Try.prog 28 #[.slice (some ⟨b, o, none⟩) 4 c] w fun e w' => e = .returned (.bool (b1 || (b2 || (b3 || (b4 || (b5 || (t3 && (t2 && (t0 || t1))))))))) ∧ w' = w := by
  have hcv : (convert 24 9 (.slice (some ⟨b, o, none⟩) 4 c)).run Try.prog w = .ok (.string (four [h3, h2, h1, h0])) w := by
    rw [run_convert_bytes_string w 24 9 5 _ 4 c Try.underlying24 Try.underlying5 Try.underlying9]
    exact run_bytesToString w _ 4 c [h3, h2, h1, h0] (load4 b o h3 h2 h1 h0 w c0 c1 c2 c3)
  generalize four [h3, h2, h1, h0] = T at *
  cases b1 with
  | true =>
    clear f3 f2 f1 f0 e2 e3 e4 e5
    go_enter Try.func28, Try.ntmps28
    go_wp2
    go_ret
    exact ⟨rfl, rfl⟩
  | false =>
  cases b2 with
  | true =>
    clear f3 f2 f1 f0 e3 e4 e5
    go_enter Try.func28, Try.ntmps28
    go_wp2
    go_ret
    exact ⟨rfl, rfl⟩
  | false =>
  cases b3 with
  | true =>
    clear f3 f2 f1 f0 e4 e5
    go_enter Try.func28, Try.ntmps28
    go_wp2
    go_ret
    exact ⟨rfl, rfl⟩
  | false =>
  cases b4 with
  | true =>
    clear f3 f2 f1 f0 e5
    go_enter Try.func28, Try.ntmps28
    go_wp2
    go_ret
    exact ⟨rfl, rfl⟩
  | false =>
  cases b5 with
  | true =>
    clear f3 f2 f1 f0
    go_enter Try.func28, Try.ntmps28
    go_wp2
    go_ret
    exact ⟨rfl, rfl⟩
  | false =>
  cases t3 with
  | false =>
    clear f2 f1 f0
    go_enter Try.func28, Try.ntmps28
    go_wp2
    go_ret
    exact ⟨rfl, rfl⟩
  | true =>
  cases t2 with
  | false =>
    clear f1 f0
    go_enter Try.func28, Try.ntmps28
    go_wp2
    go_ret
    exact ⟨rfl, rfl⟩
  | true =>
  cases t0 with
  | true =>
    clear f0
    go_enter Try.func28, Try.ntmps28
    go_wp2
    go_ret
    exact ⟨rfl, rfl⟩
  | false =>
  cases t1 with
  | true =>
    go_enter Try.func28, Try.ntmps28
    go_wp2
    go_ret
    exact ⟨rfl, rfl⟩
  | false =>
    go_enter Try.func28, Try.ntmps28
    go_wp2
    go_ret
    exact ⟨rfl, rfl⟩


theorem keepQ {P : Program} {f : FuncId} {args : Array Value} {w : World} {A : Ending → Prop} {R : Ending → World → Prop} (h : Calls P f args w fun e w' => A e ∧ ∃ q, w' = w.drewN q) (k : ∀ e w', A e → Below w.heap.size w w' → R e w') : Calls P f args w R :=
  h.mono fun e w' ⟨ha, q, hw⟩ => k e w' ha (by rw [hw]; exact below_drewN (Below.refl _ _) q)

theorem idx0 (h3 h2 h1 h0 : Int) : Lib.index (Lib.bytesOf [92, 117, h3, h2, h1, h0]) (Lib.bytesOf [92, 117]) = 0 := by
  simp [Lib.bytesOf, Lib.index, List.isPrefixOf]
theorem ofNat_ne {h : Int} {k : Nat} (hk : k < 256) (h0 : 0 ≤ h) (h1 : h < 256) (hne : h ≠ k) : UInt8.ofNat h.toNat ≠ UInt8.ofNat k := by
  intro e
  have := congrArg UInt8.toNat e
  simp only [UInt8.toNat_ofNat'] at this
  omega
theorem nope {s : List UInt8} {c : UInt8} {tl : List UInt8} (h : ∀ x ∈ s, x ≠ c) : Lib.index s (c :: tl) = -1 := by
  induction s with
  | nil => rfl
  | cons x s ih =>
    have hx := h x (by simp)
    rw [Lib.index, ih (fun y hy => h y (by simp [hy]))]
    have : (c :: tl).isPrefixOf (x :: s) = false := by simp [List.isPrefixOf, Ne.symm hx]
    rw [this]
    rfl
theorem notin (h3 h2 h1 h0 : Int) (g3 : 48 ≤ h3 ∧ h3 ≤ 102 ∧ h3 ≠ 92) (g2 : 48 ≤ h2 ∧ h2 ≤ 102 ∧ h2 ≠ 92) (g1 : 48 ≤ h1 ∧ h1 ≤ 102 ∧ h1 ≠ 92) (g0 : 48 ≤ h0 ∧ h0 ≤ 102 ∧ h0 ≠ 92) :
    Lib.contains (Lib.bytesOf [92, 117, h3, h2, h1, h0]) (Lib.bytesOf [239, 191, 189]) = false ∧ Lib.index (Lib.bytesOf [h3, h2, h1, h0]) (Lib.bytesOf [92, 117]) = -1 := by
  refine ⟨?_, ?_⟩
  · unfold Lib.contains
    have : Lib.index (Lib.bytesOf [92, 117, h3, h2, h1, h0]) (Lib.bytesOf [239, 191, 189]) = -1 := by
      refine nope (c := UInt8.ofNat 239) ?_
      intro x hx
      simp only [Lib.bytesOf, List.map_cons, List.map_nil, List.mem_cons, List.not_mem_nil, or_false] at hx
      rcases hx with rfl | rfl | rfl | rfl | rfl | rfl
      · decide
      · decide
      all_goals exact ofNat_ne (by omega) (by omega) (by omega) (by omega)
    rw [this]; rfl
  · refine nope (c := UInt8.ofNat 92) ?_
    intro x hx
    simp only [Lib.bytesOf, List.map_cons, List.map_nil, List.mem_cons, List.not_mem_nil, or_false] at hx
    rcases hx with rfl | rfl | rfl | rfl
    all_goals exact ofNat_ne (by omega) (by omega) (by omega) (by omega)

/-- A row of bytes. -/
def Six (w : World) (b o : Nat) (xs : List Int) : Prop := ∀ i, i < xs.length → w.cell? ⟨b, o + i, none⟩ = some (.int .u8 (xs.getD i 0))
theorem Six.below {w w' : World} {b o : Nat} {xs : List Int} (h : Six w b o xs) (hb : Below w.heap.size w w') : Six w' b o xs := fun i hi => cell_later hb (h i hi)
theorem Six.add {w : World} {b o : Nat} {xs : List Int} (h : Six w b o xs) : ∀ i, i < xs.length → w.cell? ((⟨b, o, none⟩ : Addr).add i) = some (.int .u8 (xs.getD i 0)) := fun i hi => by rw [Lib.add_plain']; exact h i hi

theorem six_new (w : World) (xs : List Int) (t : TypeId) (fz : Nat × Nat) : Six (w.alloc (.cells (xs.map (Value.int .u8)).toArray t fz)) w.heap.size 0 xs := by
  intro i hi
  rw [Nat.zero_add]
  have : (w.alloc (.cells (xs.map (Value.int .u8)).toArray t fz)).cell? ⟨w.heap.size, i, none⟩ = (xs.map (Value.int .u8)).toArray[i]? := by
    have h := heap_alloc_new w (.cells (xs.map (Value.int .u8)).toArray t fz)
    simp only [World.cell?, h]
    rfl
  rw [this]
  simp [hi]

set_option maxHeartbeats 2000000 in
theorem may_any (b : Nat) (h3 h2 h1 h0 m : Int) (v : Bool) (w : World) (hs : Six w b 0 [92, 117, h3, h2, h1, h0]) (hm : w.cell? ⟨0, 0, none⟩ = some (.int .i64 m))
    (g3 : 48 ≤ h3 ∧ h3 ≤ 102 ∧ h3 ≠ 92) (g2 : 48 ≤ h2 ∧ h2 ≤ 102 ∧ h2 ≠ 92) (g1 : 48 ≤ h1 ∧ h1 ≤ 102 ∧ h1 ≠ 92) (g0 : 48 ≤ h0 ∧ h0 ≤ 102 ∧ h0 ≠ 92)
    (KV : ∀ w', Below w.heap.size w w' → Calls Try.prog 28 #[.slice (some ⟨b, 2, none⟩) 4 4] w' fun e w'' => e = .returned (.bool v) ∧ w'' = w') :
    Calls Try.prog 25 #[.slice (some ⟨b, 0, none⟩) 6 6] w fun e w' => e = .returned (.bool (!v)) ∧ Below w.heap.size w w' := by
  have hni := notin h3 h2 h1 h0 g3 g2 g1 g0
  have r6 : ∀ x ∈ [92, 117, h3, h2, h1, h0], 0 ≤ x ∧ x < 256 := by intro x hx; simp at hx; omega
  have r4 : ∀ x ∈ [h3, h2, h1, h0], 0 ≤ x ∧ x < 256 := by intro x hx; simp at hx; omega
  have KC : Hid (∀ w' b2, Below w.heap.size w w' → Six w' b2 0 [239, 191, 189] → Calls Try.prog 26 #[.slice (some ⟨b, 0, none⟩) 6 6, .slice (some ⟨b2, 0, none⟩) 3 3] w' fun e w'' => e = .returned (.bool false) ∧ ∃ q, w'' = w'.drewN q) := by
    intro w' b2 hb h3s
    have := Try.bytes_Contains_at ⟨b, 0, none⟩ ⟨b2, 0, none⟩ 6 6 3 3 [92, 117, h3, h2, h1, h0] [239, 191, 189] m w' rfl rfl r6 (by decide) (hs.below hb).add h3s.add (by omega) (by omega) (by omega) (cell_later hb hm)
    rw [hni.1] at this
    exact this
  have KI : Hid (∀ w' b2, Below w.heap.size w w' → Six w' b2 0 [92, 117] → Calls Try.prog 27 #[.slice (some ⟨b, 0, none⟩) 6 6, .slice (some ⟨b2, 0, none⟩) 2 2] w' fun e w'' => e = .returned (.int .i64 0) ∧ ∃ q, w'' = w'.drewN q) := by
    intro w' b2 hb h3s
    have := Try.bytes_Index_at ⟨b, 0, none⟩ ⟨b2, 0, none⟩ 6 6 2 2 [92, 117, h3, h2, h1, h0] [92, 117] m w' rfl rfl r6 (by decide) (hs.below hb).add h3s.add (by omega) (by omega) (by omega) (cell_later hb hm)
    rw [idx0] at this
    exact this
  have KJ : Hid (∀ w' b2, Below w.heap.size w w' → Six w' b2 0 [92, 117] → Calls Try.prog 27 #[.slice (some ⟨b, 2, none⟩) 4 4, .slice (some ⟨b2, 0, none⟩) 2 2] w' fun e w'' => e = .returned (.int .i64 (-1)) ∧ ∃ q, w'' = w'.drewN q) := by
    intro w' b2 hb h3s
    have h4 : Six w' b 2 [h3, h2, h1, h0] := by
      intro i hi
      have := (hs.below hb) (i + 2) (by simp at hi ⊢; omega)
      have e : 0 + (i + 2) = 2 + i := by omega
      rw [e] at this
      simpa using this
    have := Try.bytes_Index_at ⟨b, 2, none⟩ ⟨b2, 0, none⟩ 4 4 2 2 [h3, h2, h1, h0] [92, 117] m w' rfl rfl r4 (by decide) h4.add h3s.add (by omega) (by omega) (by omega) (cell_later hb hm)
    rw [hni.2] at this
    exact this
  replace KV := hid KV
  clear hs hm g3 g2 g1 g0 hni r6 r4
  have kc := fun (w : World) (C : Array Value) (n c : Nat) => Lib.run_convert_bytes_const (P := Try.prog) w 24 5 C n c Try.underlying24 Try.underlying5
  go_enter Try.func25, Try.ntmps25
  go_wp2_with fail
  refine keepQ (KC.out _ _ ((Below.refl _ _).alloc (Nat.le_refl _) _) (six_new w [239, 191, 189] 5 _)) ?_
  rintro e w1 rfl hb1
  have hB1 : Below w.heap.size w w1 := ((Below.refl _ _).alloc (Nat.le_refl _) _).trans (hb1.mono (by simp))
  have hs1 := hB1.size
  replace hB1 := hid hB1
  clear hb1 KC
  go_wp2_with fail
  refine wp_loop_rounds 2 ?_
  rw [rounds_succ]
  go_wp2_with fail
  refine keepQ (KI.out _ _ (hB1.out.alloc hs1 _) (six_new w1 [92, 117] 5 _)) ?_
  rintro e w2 rfl hb2
  have hB2 : Below w.heap.size w w2 := (hB1.out.alloc hs1 _).trans (hb2.mono (by simp; omega))
  have hs2 := hB2.size
  replace hB2 := hid hB2
  clear hb2 KI
  go_wp2_with fail
  refine (KV.out w2 hB2.out).mono ?_
  rintro e w3 ⟨rfl, rfl⟩
  cases v with
  | false =>
    go_wp2_with fail
    go_ret
    exact ⟨rfl, hB2.out⟩
  | true =>
    go_wp2_with fail
    rw [rounds_succ]
    go_wp2_with fail
    refine keepQ (KJ.out _ _ (hB2.out.alloc hs2 _) (six_new w3 [92, 117] 5 _)) ?_
    rintro e w4 rfl hb4
    have hB4 : Hid (Below w.heap.size w w4) := (hB2.out.alloc hs2 _).trans (hb4.mono (by simp; omega))
    clear hb4
    go_wp2_with fail
    go_ret
    exact ⟨rfl, hB4.out⟩

end Go.Proofs.Qxb6601068a
