import Derived.Test.Qxb6001690aDel1
namespace Go.Proofs.Qxb6001690a
open Go.RowKit
set_option linter.unusedVariables false
set_option linter.unusedSimpArgs false

/-- The entries that deleteAll keeps. -/
def keepOf (r : Int) (name : ByteArray) (ms : List Ent) : List Ent := ms.filter fun x => !sameB r x.name name

/-- Where a stanza's memory stands in the loop of deleteAll. -/
structure Del (r : Int) (name : ByteArray) (ms : List Ent) (p f g c n : Nat) (P : Array Value) (w1 wr : World) (i k : Nat) : Prop where
  row : RowAt wr p 65 P
  fields : ∃ A, RowAt wr f 57 A ∧ A.size = c * 2 ∧ Part (HasF A) ms (keepOf r name (ms.take i)) i
  lines : ∃ L, RowAt wr g 3 L ∧ L.size = n ∧ Part (HasL L) ms (keepOf r name (ms.take i)) i
  len : k = (keepOf r name (ms.take i)).length
  kept : Kept (fun b => b = f ∨ b = g) w1 wr

theorem keepOf_le (r : Int) (name : ByteArray) (ms : List Ent) (i : Nat) : (keepOf r name (ms.take i)).length ≤ i := by
  refine Nat.le_trans (List.length_filter_le _ _) ?_
  rw [List.length_take]; omega
theorem keepOf_yes {r : Int} {name : ByteArray} {ms : List Ent} {i : Nat} (hi : i < ms.length) (h : sameB r ms[i].name name = true) : keepOf r name (ms.take (i + 1)) = keepOf r name (ms.take i) := by
  unfold keepOf; rw [filter_take_succ ms i hi]; simp [h]
theorem keepOf_no {r : Int} {name : ByteArray} {ms : List Ent} {i : Nat} (hi : i < ms.length) (h : sameB r ms[i].name name = false) : keepOf r name (ms.take (i + 1)) = keepOf r name (ms.take i) ++ [ms[i]] := by
  unfold keepOf; rw [filter_take_succ ms i hi]; simp [h]

theorem Del.yes {r : Int} {name : ByteArray} {ms : List Ent} {p f g c n : Nat} {P : Array Value} {w1 wr : World} {i k : Nat} (h : Del r name ms p f g c n P w1 wr i k) (hi : i < ms.length) (hs : sameB r ms[i].name name = true) : Del r name ms p f g c n P w1 wr (i + 1) k := by
  obtain ⟨h1, ⟨A, a1, a2, a3⟩, ⟨L, l1, l2, l3⟩, h4, h5⟩ := h
  have e := keepOf_yes hi hs
  exact ⟨h1, ⟨A, a1, a2, by rw [e]; exact a3.skip⟩, ⟨L, l1, l2, by rw [e]; exact l3.skip⟩, by rw [e]; exact h4, h5⟩
theorem Del.later {r : Int} {name : ByteArray} {ms : List Ent} {p f g c n : Nat} {P : Array Value} {w1 wr wx : World} {i k : Nat} (h : Del r name ms p f g c n P w1 wr i k) (hb : Below wr.heap.size wr wx) : Del r name ms p f g c n P w1 wx i k := by
  obtain ⟨h1, ⟨A, a1, a2, a3⟩, ⟨L, l1, l2, l3⟩, h4, h5⟩ := h
  exact ⟨h1.below hb h1.lt, ⟨A, a1.below hb a1.lt, a2, a3⟩, ⟨L, l1.below hb l1.lt, l2, l3⟩, h4, h5.trans (Kept.of_below hb)⟩
theorem Del.no {r : Int} {name : ByteArray} {ms : List Ent} {p f g c n : Nat} {P : Array Value} {w1 wr : World} {i k : Nat} (h : Del r name ms p f g c n P w1 wr i k) (hi : i < ms.length) (hs : sameB r ms[i].name name = false)
    (hpf : p ≠ f) (hpg : p ≠ g) (hfg : f ≠ g) (hnc : ms.length ≤ c) (hn : ms.length = n) :
    Del r name ms p f g c n P w1 (((wr.setCell ⟨f, k * 2, none⟩ (.string ms[i].name)).setCell ⟨f, k * 2 + 1, none⟩ (.string ms[i].value)).drew.setCell ⟨g, k, none⟩ (.int .i64 ms[i].line)) (i + 1) (k + 1) := by
  obtain ⟨h1, ⟨A, a1, a2, a3⟩, ⟨L, l1, l2, l3⟩, h4, h5⟩ := h
  have e := keepOf_no hi hs
  have hle := keepOf_le r name ms i
  subst h4
  generalize keepOf r name (ms.take i) = d at *
  refine ⟨?_, ⟨(A.setIfInBounds (d.length * 2) (.string ms[i].name)).setIfInBounds (d.length * 2 + 1) (.string ms[i].value), ?_, by simpa using a2, ?_⟩, ⟨L.setIfInBounds d.length (.int .i64 ms[i].line), ?_, by simpa using l2, ?_⟩, by rw [e]; simp, ?_⟩
  · exact RowAt.setOther (show RowAt ((wr.setCell _ _).setCell _ _).drew p 65 P from (h1.setOther hpf _ _).setOther hpf _ _) hpg _ _
  · exact RowAt.setOther (show RowAt ((wr.setCell _ _).setCell _ _).drew f 57 _ from (a1.set _ _).set _ _) hfg _ _
  · rw [e]; exact a3.put hle hi (fun x j hj hx => hx.other hj) (HasF.set (by omega))
  · exact RowAt.set (show RowAt ((wr.setCell _ _).setCell _ _).drew g 3 L from (l1.setOther (Ne.symm hfg) _ _).setOther (Ne.symm hfg) _ _) _ _
  · rw [e]; exact l3.put hle hi (fun x j hj hx => hx.other hj) (HasL.set (by omega))
  · exact h5.trans ((((Kept.set wr f _ _ (.inl rfl)).trans (Kept.set _ f _ _ (.inl rfl))).trans (Kept.of_below (Below.refl _ _).drew)).trans (Kept.set _ g _ _ (.inr rfl)))

theorem same_is (r : Int) (a b : ByteArray) (x : Bool) (h : sameB r a b = x) (w : World) (ha : a.size ≤ maxLen) (hb : b.size ≤ maxLen) :
    Calls Try.prog 102 #[.int .u8 r, .string a, .string b] w fun e w' => e = .returned (.bool x) ∧ ∃ n, w' = w.drewN n := by
  subst h; exact same_any r a b w ha hb
theorem at_world {c : Code} {P : Program} {Q : Exit → Act → World → Prop} {a : Act} {w : World} (R : World → Prop) (h : R w) (k : ∀ w', R w' → c.wp P Q a w') : c.wp P Q a w := k w h

set_option maxRecDepth 100000 in
set_option maxHeartbeats 4000000 in
theorem deleteAll_any (p f c n : Nat) (r first : Int) (l name : ByteArray) (ms : List Ent) (A : Array Value) (w : World)
    (hp : RowAt w p 65 (stanzaCells (.slice (some ⟨f, 0, none⟩) n c) r l)) (hf : RowAt w f 57 A) (hA : A.size = c * 2) (hnc : n ≤ c) (hn : ms.length = n) (hm : n ≤ 1048576) (hfil : ∀ j (h : j < ms.length), HasF A ms[j] j) (hpf : p ≠ f)
    (hsz : ∀ x ∈ ms, x.name.size ≤ maxLen) (hname : name.size ≤ maxLen)
    (KL : Calls Try.prog 93 #[.pointer (some ⟨p, 0, none⟩)] w fun e w' => (∃ g, e = .returned (.tuple #[.int .i64 first, .slice (some ⟨g, 0, none⟩) n n, .bool true]) ∧ RowAt w' g 3 (ms.map fun x => .int .i64 x.line).toArray ∧ w.heap.size ≤ g) ∧ Below w.heap.size w w') :
    Calls Try.prog 94 #[.pointer (some ⟨p, 0, none⟩), .string name] w fun e w' => e = .returned (.tuple #[]) ∧
      RowAt w' p 65 (stanzaCells (.slice (some ⟨f, 0, none⟩) (keepOf r name ms).length c) r ⟨(encAll first (keepOf r name ms).length ((keepOf r name ms).map Ent.line)).toArray⟩) ∧
      (∃ A', RowAt w' f 57 A' ∧ A'.size = c * 2 ∧ ∀ j (h : j < (keepOf r name ms).length), HasF A' (keepOf r name ms)[j] j) ∧ Kept (fun b => b = p ∨ b = f) w w' := by
  replace hn := hid hn
  replace hsz := hid hsz
  replace KL := hid KL
  go_enter Try.func94, Try.ntmps94
  go_wp2_with fail
  refine Calls.mono KL.out ?_
  rintro e w1 ⟨⟨g, rfl, hg, hgw⟩, hb1⟩
  have hp1 := hp.below hb1 hp.lt
  have hf1 := hf.below hb1 hf.lt
  have hpg : p ≠ g := by have := hp.lt; omega
  have hfg : f ≠ g := by have := hf.lt; omega
  have hD : Del r name ms p f g c n (stanzaCells (.slice (some ⟨f, 0, none⟩) n c) r l) w1 w1 0 0 :=
    ⟨hp1, ⟨A, hf1, hA, fun j h => absurd h (by simp [keepOf]), fun j h _ => hfil j h⟩, ⟨_, hg, by simp [hn.out], fun j h => absurd h (by simp [keepOf]), fun j h _ => by simp [HasL, h]⟩, by simp [keepOf], Kept.of_below (Below.refl _ _)⟩
  have hc0 : w1.cell? ⟨p, 0, none⟩ = some (.slice (some ⟨f, 0, none⟩) n c) := hp1.cell 0
  replace hD := hid hD
  replace hb1 := hid hb1
  have hpw := hid hp.lt
  have hfw := hid hf.lt
  replace hgw := hid hgw
  clear hp hf hA hfil hg hp1 hf1 KL
  go_wp2_with fail
  clear hc0
  go_loopw [21, 7] (fun ti tk wr => ∃ i k : Nat, i ≤ n ∧ ti = .int .i64 i ∧ tk = .int .i64 k ∧ k ≤ i ∧ Del r name ms p f g c n (stanzaCells (.slice (some ⟨f, 0, none⟩) n c) r l) w1 wr i k) (fun i _ _ => n - (intOf i).toNat)
  case atStart => exact ⟨0, 0, Nat.zero_le _, rfl, rfl, Nat.le_refl _, hD.out⟩
  case round =>
    obtain ⟨i, k, hi, rfl, rfl, hki, hdel⟩ := hrel
    by_cases hlt : i < n
    · have hil : i < ms.length := by rw [hn.out]; exact hlt
      have hss := hsz.out _ (List.getElem_mem hil)
      obtain ⟨A1, ha1, ha2, ha3⟩ := hdel.fields
      have hcn : wr.cell? ⟨f, i * 2, none⟩ = some (.string ms[i].name) := (ha1.cell _).trans (ha3.2 i hil (Nat.le_refl _)).1
      have hcv : wr.cell? ⟨f, i * 2 + 1, none⟩ = some (.string ms[i].value) := (ha1.cell _).trans (ha3.2 i hil (Nat.le_refl _)).2
      clear ha1 ha2 ha3 A1
      replace hdel := hid hdel
      have hlti : (i : Int) < (n : Int) := by omega
      go_upto_region 5 with fail
      refine at_world (fun wa => RowAt wa wr.heap.size 57 #[.string ms[i].name, .string ms[i].value] ∧ Below wr.heap.size wr wa) ?_ ?_
      · exact ⟨RowAt.new _ _ _, (Below.refl _ _).alloc (Nat.le_refl _) _⟩
      rintro wa ⟨hrb, hBa⟩
      have hdela := hdel.out.later hBa
      have hbf : Hid (f ≠ wr.heap.size) := by obtain ⟨A1, ha1, _⟩ := hdel.out.fields; have := ha1.lt; show f ≠ wr.heap.size; omega
      clear hdel hBa hcn hcv
      generalize wr.heap.size = b at hrb hbf ⊢
      have hb0 : wa.cell? ⟨b, 0, none⟩ = some (.string ms[i].name) := hrb.cell 0
      have hp2 : wa.cell? ⟨p, 2, none⟩ = some (.int .u8 r) := hdela.row.cell 2
      replace hdela := hid hdela
      replace hrb := hid hrb
      cases hsm : sameB r ms[i].name name with
      | true =>
        have HSM := hid hsm
        go_quiet ((go_at_call 102; exact Calls.quiet_of (same_is _ _ _ true HSM.out _ hss hname)))
        clear hb0 hp2 hsm
        go_wp2_with fail
        go_roundw
        case rel => exact ⟨i + 1, k, by omega, by go_num, rfl, by omega, (hdela.out.yes hil HSM.out).later (below_drewN (Below.refl _ _) _)⟩
        case measure => simp [intOf]; omega
      | false =>
        have HSM := hid hsm
        go_quiet ((go_at_call 102; exact Calls.quiet_of (same_is _ _ _ false HSM.out _ hss hname)))
        clear hb0 hp2 hsm
        go_upto_region 6 with fail
        refine at_world (fun wb => RowAt wb b 57 #[.string ms[i].name, .string ms[i].value] ∧ Del r name ms p f g c n (stanzaCells (.slice (some ⟨f, 0, none⟩) n c) r l) w1 wb i k) ?_ ?_
        · exact ⟨hrb.out, hdela.out.later (below_drewN (Below.refl _ _) _)⟩
        clear hrb hdela
        rintro wb ⟨hrb, hdelb⟩
        have hb0 : wb.cell? ⟨b, 0, none⟩ = some (.string ms[i].name) := hrb.cell 0
        have hb1c : wb.cell? ⟨b, 1, none⟩ = some (.string ms[i].value) := hrb.cell 1
        have hp0 : wb.cell? ⟨p, 0, none⟩ = some (.slice (some ⟨f, 0, none⟩) n c) := hdelb.row.cell 0
        obtain ⟨A1, ha1, ha2, ha3⟩ := hdelb.fields
        have hf0 := ha1.frozen (k * 2)
        have hf1 := ha1.frozen (k * 2 + 1)
        obtain ⟨v0, hv0⟩ := ha1.cellEx (j := k * 2) (by omega)
        obtain ⟨v1, hv1⟩ := ha1.cellEx (j := k * 2 + 1) (by omega)
        obtain ⟨L1, hl1, hl2, hl3⟩ := hdelb.lines
        have hgi : wb.cell? ⟨g, i, none⟩ = some (.int .i64 ms[i].line) := (hl1.cell _).trans (hl3.2 i hil (Nat.le_refl _))
        have hgf := hl1.frozen k
        obtain ⟨v2, hv2⟩ := hl1.cellEx (j := k) (by omega)
        clear ha1 ha2 ha3 A1 hl2 hl3 hrb
        replace hdelb := hid hdelb
        replace hgi := hid hgi
        replace hv2 := hid hv2
        replace hl1 := hid hl1
        clear hgf
        have hkn : (k : Int) < (n : Int) := by omega
        go_region
        go_upto_region 8 with fail
        refine at_world (fun wc => wc = ((wb.setCell ⟨f, k * 2, none⟩ (.string ms[i].name)).setCell ⟨f, k * 2 + 1, none⟩ (.string ms[i].value)).drew ∧ wc.cell? ⟨g, i, none⟩ = some (.int .i64 ms[i].line) ∧ wc.cell? ⟨g, k, none⟩ = some v2 ∧ wc.frozen? ⟨g, k, none⟩ = false) ?_ ?_
        · have hr : RowAt ((wb.setCell ⟨f, k * 2, none⟩ (.string ms[i].name)).setCell ⟨f, k * 2 + 1, none⟩ (.string ms[i].value)).drew g 3 L1 := (hl1.out.setOther (Ne.symm hfg) _ _).setOther (Ne.symm hfg) _ _
          exact ⟨rfl, (hr.cell _).trans ((hl1.out.cell _).symm.trans hgi.out), (hr.cell _).trans ((hl1.out.cell _).symm.trans hv2.out), hr.frozen _⟩
        clear hb0 hb1c hp0 hf0 hf1 hv0 hv1 hgi hv2 hl1
        rintro wc ⟨hwc, hgi, hv2, hgf⟩
        replace hwc := hid hwc
        go_wp2_with fail
        go_roundw
        case rel => exact ⟨i + 1, k + 1, by omega, by go_num, by go_num, by omega, by rw [hwc.out]; exact hdelb.out.no hil HSM.out hpf hpg hfg (by rw [hn.out]; exact hnc) hn.out⟩
        case measure => simp [intOf]; omega
    · have hin : i = n := by omega
      subst hin
      have etk : ms.take i = ms := List.take_of_length_le (by rw [hn.out]; exact Nat.le_refl _)
      obtain ⟨h1, ⟨A1, ha1, ha2, ha3⟩, ⟨L1, hl1, hl2, hl3⟩, h4, h5⟩ := hdel
      rw [etk] at ha3 hl3 h4
      have hkc : k ≤ c := by omega
      obtain ⟨X, wz, hsl, hcl, ⟨A2, hA2, hA2s, hA2e⟩, hkz⟩ := clear_tail f k i c A1 wr ha1 hki hnc (by omega)
      have hpz := h1.kept hkz hpf
      have hgz := hl1.kept hkz (Ne.symm hfg)
      have hp0 : wr.cell? ⟨p, 0, none⟩ = some (.slice (some ⟨f, 0, none⟩) i c) := h1.cell 0
      have hp0z : wz.cell? ⟨p, 0, none⟩ = some (.slice (some ⟨f, 0, none⟩) i c) := hpz.cell 0
      have hpfz := hpz.frozen 0
      have hKz : Hid (Kept (fun b => b = f ∨ b = g) w1 wz) := h5.trans (hkz.mono fun k hk => .inl hk)
      replace hpz := hid hpz
      replace hgz := hid hgz
      replace hA2 := hid hA2
      replace ha3 := hid ha3
      replace hl3 := hid hl3
      replace h4 := hid h4
      clear h1 hl1 ha1 hkz h5 hlt etk
      have hkii : (k : Int) ≤ (i : Int) := by omega
      have hkic : (k : Int) ≤ (c : Int) := by omega
      go_wp2_with fail
      refine (setLines_yes p (.slice (some ⟨f, 0, none⟩) k c) r l first (some ⟨g, 0, none⟩) k i ((keepOf r name ms).map Ent.line) _ (hpz.out.set 0 _) (by rw [List.length_map]; exact h4.out.symm) (by omega) ?_).mono ?_
      · intro j hj
        have hj' : j < (keepOf r name ms).length := by simpa using hj
        refine ⟨g, 0, rfl, ?_⟩
        rw [Nat.zero_add, (hgz.out.setOther (Ne.symm hpg) _ _).cell j]
        have hh : L1[j]? = _ := hl3.out.1 j hj'
        simpa using hh
      rintro e w' ⟨rfl, hp', hk'⟩
      replace hp' := hid hp'
      replace hk' := hid hk'
      go_wp2_with fail
      go_end0
      refine ⟨rfl, by rw [← h4.out]; exact hp'.out, ⟨A2, (hA2.out.setOther (Ne.symm hpf) _ _).kept hk'.out (Ne.symm hpf), hA2s.trans ha2, fun j hj => ?_⟩, ?_⟩
      · have hh := ha3.out.1 j hj
        have := h4.out
        exact ⟨(hA2e _ (by omega)).trans hh.1, (hA2e _ (by omega)).trans hh.2⟩
      · have big : Kept (fun b => b = p ∨ b = f ∨ b = g) w w' := (Kept.of_below hb1.out).trans ((hKz.out.mono fun k hk => .inr hk).trans ((Kept.set wz p 0 _ (.inl rfl)).trans (hk'.out.mono fun k hk => .inl hk)))
        refine ⟨big.os, big.tape, big.output, big.size, fun k hk hs => big.block k hk ?_⟩
        rintro (h | h | h)
        · exact hs (.inl h)
        · exact hs (.inr h)
        · have := hgw.out; omega

theorem zzDeleteAll_of (p : Nat) (name : ByteArray) (w : World) (R : World → Prop) (h : Calls Try.prog 94 #[.pointer (some ⟨p, 0, none⟩), .string name] w fun e w' => e = .returned (.tuple #[]) ∧ R w') :
    Calls Try.prog 63 #[.pointer (some ⟨p, 0, none⟩), .string name] w fun e w' => e = .returned (.tuple #[]) ∧ R w' := by
  replace h := hid h
  go_enter Try.func63, Try.ntmps63
  go_wp2_with (go_at_call 94; refine Calls.mono h.out ?_; rintro e w' ⟨rfl, hr⟩; replace hr := hid hr)
  go_end0
  exact ⟨rfl, hr.out⟩

/-- A stanza in memory: its fields and their lines. -/
structure StzAt (w : World) (p f c : Nat) (r first : Int) (ms : List Ent) : Prop where
  row : RowAt w p 65 (stanzaCells (.slice (some ⟨f, 0, none⟩) ms.length c) r ⟨(encAll first ms.length (ms.map Ent.line)).toArray⟩)
  fields : ∃ A, RowAt w f 57 A ∧ A.size = c * 2 ∧ ∀ j (h : j < ms.length), HasF A ms[j] j
  cap : ms.length ≤ c
  small : ms.length ≤ 1048576
  apart : p ≠ f
  names : ∀ x ∈ ms, x.name.size ≤ maxLen
  lines : ∀ x ∈ ms, (Lit.int .i64 x.line).wf = true
  first : (Lit.int .i64 first).wf = true
theorem StzAt.lines93 {w : World} {p f c : Nat} {r first : Int} {ms : List Ent} (h : StzAt w p f c r first ms) :
    Calls Try.prog 93 #[.pointer (some ⟨p, 0, none⟩)] w fun e w' => (∃ g, e = .returned (.tuple #[.int .i64 first, .slice (some ⟨g, 0, none⟩) ms.length ms.length, .bool true]) ∧ RowAt w' g 3 (ms.map fun x => .int .i64 x.line).toArray ∧ w.heap.size ≤ g) ∧ Below w.heap.size w w' := by
  have := fieldLines_ok p (some ⟨f, 0, none⟩) ms.length c r first (ms.map Ent.line) w (by simp) h.small h.first (by intro x hx; obtain ⟨y, hy, rfl⟩ := List.mem_map.1 hx; exact h.lines y hy) h.row
  simpa [List.map_map, Function.comp_def] using this
theorem StzAt.later {w w' : World} {p f c : Nat} {r first : Int} {ms : List Ent} (h : StzAt w p f c r first ms) (hb : Below w.heap.size w w') : StzAt w' p f c r first ms := by
  obtain ⟨A, a1, a2, a3⟩ := h.fields
  exact ⟨h.row.below hb h.row.lt, ⟨A, a1.below hb a1.lt, a2, a3⟩, h.cap, h.small, h.apart, h.names, h.lines, h.first⟩
theorem StzAt.delete {w : World} {p f c : Nat} {r first : Int} {ms : List Ent} (h : StzAt w p f c r first ms) (name : ByteArray) (hname : name.size ≤ maxLen) :
    Calls Try.prog 63 #[.pointer (some ⟨p, 0, none⟩), .string name] w fun e w' => e = .returned (.tuple #[]) ∧ StzAt w' p f c r first (keepOf r name ms) ∧ Kept (fun b => b = p ∨ b = f) w w' := by
  obtain ⟨A, a1, a2, a3⟩ := h.fields
  have hle : (keepOf r name ms).length ≤ ms.length := List.length_filter_le _ _
  refine zzDeleteAll_of p name w _ ((deleteAll_any p f c ms.length r first _ name ms A w h.row a1 a2 h.cap rfl h.small a3 h.apart h.names hname h.lines93).mono ?_)
  rintro e w' ⟨rfl, h1, h2, h3⟩
  exact ⟨rfl, ⟨h1, h2, Nat.le_trans hle h.cap, Nat.le_trans hle h.small, h.apart, fun x hx => h.names x ((List.mem_filter.1 hx).1), fun x hx => h.lines x ((List.mem_filter.1 hx).1), h.first⟩, h3⟩

end Go.Proofs.Qxb6001690a
