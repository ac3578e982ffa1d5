import Derived.Test.Qxb6001690aGua4
namespace Go.Proofs.Qxb6001690a
open Go.RowKit
set_option linter.unusedVariables false
set_option linter.unusedSimpArgs false

def ents (ss1 ss2 : List ByteArray) (xs : List Int) : List Ent := ((ss1.zip ss2).zip xs).map fun p => ⟨p.1.1, p.1.2, p.2⟩
theorem ents_length {ss1 ss2 : List ByteArray} {xs : List Int} {n : Nat} (h1 : ss1.length = n) (h2 : ss2.length = n) (h3 : xs.length = n) : (ents ss1 ss2 xs).length = n := by
  simp [ents, h1, h2, h3]
theorem ents_at {ss1 ss2 : List ByteArray} {xs : List Int} (j : Nat) (hj : j < (ents ss1 ss2 xs).length) (h1 : j < ss1.length) (h2 : j < ss2.length) (h3 : j < xs.length) : (ents ss1 ss2 xs)[j] = ⟨ss1[j], ss2[j], xs[j]⟩ := by
  simp [ents]
theorem ents_line {ss1 ss2 : List ByteArray} {xs : List Int} {n : Nat} (h1 : ss1.length = n) (h2 : ss2.length = n) (h3 : xs.length = n) : (ents ss1 ss2 xs).map Ent.line = xs := by
  apply List.ext_getElem
  · simp [ents, h1, h2, h3]
  · intro j hj hj'
    simp [ents]
/-- The entries of neither name. -/
def both (a b : ByteArray) (ms : List Ent) : List Ent := ms.filter fun x => !(sameB 0 x.name a || sameB 0 x.name b)
theorem both_keep (a b : ByteArray) (ms : List Ent) : keepOf 0 b (keepOf 0 a ms) = both a b ms := by
  unfold keepOf both
  rw [List.filter_filter]
  apply List.filter_congr
  intro x _
  cases sameB 0 x.name a <;> cases sameB 0 x.name b <;> rfl
theorem both_yes {a b : ByteArray} {ms : List Ent} {i : Nat} (hi : i < ms.length) (h : (sameB 0 ms[i].name a || sameB 0 ms[i].name b) = true) : both a b (ms.take (i + 1)) = both a b (ms.take i) := by
  unfold both; rw [filter_take_succ ms i hi]; simp only [h]; simp
theorem both_no {a b : ByteArray} {ms : List Ent} {i : Nat} (hi : i < ms.length) (h : (sameB 0 ms[i].name a || sameB 0 ms[i].name b) = false) : both a b (ms.take (i + 1)) = both a b (ms.take i) ++ [ms[i]] := by
  unfold both; rw [filter_take_succ ms i hi]; simp only [h]; simp
theorem both_le (a b : ByteArray) (ms : List Ent) (i : Nat) : (both a b (ms.take i)).length ≤ i := by
  refine Nat.le_trans (List.length_filter_le _ _) ?_
  rw [List.length_take]; omega

theorem owns_later {w w' : World} {B g n c m : Nat} {e : TypeId} {xs : List Value} (h : w.ownsRow B e 1 (.slice (some ⟨g, 0, none⟩) m c) n xs) (hb : Below w.heap.size w w') : w'.ownsRow B e 1 (.slice (some ⟨g, 0, none⟩) m c) n xs :=
  h.kept (row := none) ⟨hb.os, hb.tape, hb.output, hb.size, fun k hk _ => hb.block k hk⟩ (.inr (by simp [Value.ownBlock]))
theorem owns_cells {w : World} {B g n c : Nat} {e : TypeId} {xs : List Value} (h : w.ownsRow B e 1 (.slice (some ⟨g, 0, none⟩) n c) n xs) : CellsAt w (some ⟨g, 0, none⟩) xs := by
  intro j hj
  refine ⟨g, 0, rfl, ?_⟩
  rw [Nat.zero_add, h.cellAt j (by have := h.1; omega), List.getElem?_eq_getElem hj]
theorem CellsAt.kept {S : Nat → Prop} {w w' : World} {g : Nat} {vs : List Value} (h : CellsAt w (some ⟨g, 0, none⟩) vs) (hk : Kept S w w') (hg : ¬ S g) : CellsAt w' (some ⟨g, 0, none⟩) vs := by
  intro j hj
  obtain ⟨b, o, hbo, hc⟩ := h j hj
  obtain ⟨rfl, rfl⟩ : g = b ∧ 0 = o := by simpa using hbo
  exact ⟨g, 0, rfl, (World.cell?_of_block (w := w) (hk.block g (World.block_lt_of_cell? w _ hc) hg)).trans hc⟩
theorem CellsAt.at0 {w : World} {g : Nat} {vs : List Value} (h : CellsAt w (some ⟨g, 0, none⟩) vs) {j : Nat} (hj : j < vs.length) : w.cell? ⟨g, j, none⟩ = some vs[j] := by
  obtain ⟨b, o, hbo, hc⟩ := h j hj
  obtain ⟨rfl, rfl⟩ : g = b ∧ 0 = o := by simpa using hbo
  rw [Nat.zero_add] at hc
  exact hc
theorem StzAt.lines93' {w : World} {p f c : Nat} {r first : Int} {ms : List Ent} (h : StzAt w p f c r first ms) {m : Nat} (hm : ms.length = m) :
    Calls Try.prog 93 #[.pointer (some ⟨p, 0, none⟩)] w fun e w' => (∃ g, e = .returned (.tuple #[.int .i64 first, .slice (some ⟨g, 0, none⟩) m m, .bool true]) ∧ RowAt w' g 3 ((ms.map Ent.line).map (.int .i64)).toArray ∧ w.heap.size ≤ g) ∧ Below w.heap.size w w' := by
  subst hm
  simpa [List.map_map, Function.comp_def] using h.lines93

/-- The three rows of what is kept. -/
structure Rows3 (d : List Ent) (B1 B2 B3 n : Nat) (w5 wr : World) (m : Nat) : Prop where
  o1 : wr.ownsRow w5.heap.size 9 1 (.slice (some ⟨B1, 0, none⟩) m n) m (d.map fun e => .string e.name)
  o2 : wr.ownsRow w5.heap.size 9 1 (.slice (some ⟨B2, 0, none⟩) m n) m (d.map fun e => .string e.value)
  o3 : wr.ownsRow w5.heap.size 3 1 (.slice (some ⟨B3, 0, none⟩) m n) m (d.map fun e => .int .i64 e.line)
  bel : Below w5.heap.size w5 wr
theorem Rows3.later {d : List Ent} {B1 B2 B3 n : Nat} {w5 wr wx : World} {m : Nat} (h : Rows3 d B1 B2 B3 n w5 wr m) (hb : Below wr.heap.size wr wx) : Rows3 d B1 B2 B3 n w5 wx m :=
  ⟨owns_later h.o1 hb, owns_later h.o2 hb, owns_later h.o3 hb, h.bel.trans (hb.mono h.bel.size)⟩

set_option maxRecDepth 100000 in
set_option maxHeartbeats 8000000 in
theorem lawD (a1 a2 a3 : Option Addr) (n1 n2 n3 c1 c2 c3 : Nat) (ss1 ss2 : List ByteArray) (xs : List Int) (first : Int) (x y : ByteArray) (w : World)
    (hn1 : ss1.length = n1) (hn2 : ss2.length = n2) (hn3 : xs.length = n3) (hm1 : n1 ≤ maxLen) (hm2 : n2 ≤ maxLen) (hm3 : n3 ≤ maxLen) (hs1 : ∀ s ∈ ss1, s.size ≤ maxLen) (hs2 : ∀ s ∈ ss2, s.size ≤ maxLen) (hx3 : ∀ x ∈ xs, (Lit.int .i64 x).wf = true) (hfw : (Lit.int .i64 first).wf = true) (hx : x.size ≤ maxLen) (hy : y.size ≤ maxLen)
    (hc1 : CellsAt w a1 (ss1.map .string)) (hc2 : CellsAt w a2 (ss2.map .string)) (hc3 : CellsAt w a3 (xs.map (.int .i64))) (ha1 : a1 = none → n1 = 0) (ha2 : a2 = none → n2 = 0) (ha3 : a3 = none → n3 = 0) :
    Calls Try.prog 14 #[.slice a1 n1 c1, .slice a2 n2 c2, .int .i64 first, .slice a3 n3 c3, .string x, .string y] w fun e w' => e = .returned (.bool true) ∧ Below w.heap.size w w' := by
  have K78 := hid (zzBytes78_any a1 a2 a3 n1 n2 n3 c1 c2 c3 ss1 ss2 (.int .i64 first) x y w hn1 hn2 hm1 hm2 hm3 hx hy hs1 hs2 hc1 hc2)
  by_cases hbig : n1 + total ss1 + n2 + total ss2 + n3 + x.size + y.size ≤ 1048576
  case neg =>
    replace hbig := hid hbig
    clear hn1 hn2 hn3 hm1 hm2 hm3 hs1 hs2 hx3 hfw hx hy hc1 hc2 hc3 ha1 ha2 ha3
    go_enter Try.func14, Try.ntmps14
    go_wp2_with fail
    refine keepW K78.out ?_
    rintro e ⟨b, rfl, hb⟩
    cases b with
    | true => exact absurd (hb rfl) hbig.out
    | false =>
      go_wp2_with fail
      go_ret
      exact ⟨rfl, Below.refl _ _⟩
  case pos =>
  have K44a := hid (strsBytes2_any a1 n1 c1 ss1 w hn1 (by omega) hc1)
  have K44b := hid (strsBytes2_any a2 n2 c2 ss2 w hn2 (by omega) hc2)
  have hcap1 : (16 * n1 + total ss1 : Nat) ≤ 17825792 := by omega
  have hcap2 : (16 * n2 + total ss2 : Nat) ≤ 17825792 := by omega
  generalize (16 * n1 + total ss1 : Nat) = t1 at K44a hcap1
  generalize (16 * n2 + total ss2 : Nat) = t2 at K44b hcap2
  have ht1 : (t1 : Int) ≤ 17825792 := by omega
  have ht2 : (t2 : Int) ≤ 17825792 := by omega
  have hn1i : (n1 : Int) ≤ 1048576 := by omega
  have hn2i : (n2 : Int) ≤ 1048576 := by omega
  have hn3i : (n3 : Int) ≤ 1048576 := by omega
  have hxi : (x.size : Int) ≤ 1048576 := by omega
  have hyi : (y.size : Int) ≤ 1048576 := by omega
  replace hbig := hid hbig
  replace hs1 := hid hs1
  replace hx3 := hid hx3
  replace hc1 := hid hc1
  replace hc2 := hid hc2
  replace hc3 := hid hc3
  replace ha1 := hid ha1
  replace ha2 := hid ha2
  replace ha3 := hid ha3
  replace hn1 := hid hn1
  replace hn2 := hid hn2
  replace hn3 := hid hn3
  replace hfw := hid hfw
  replace hx := hid hx
  replace hy := hid hy
  clear hm1 hm2 hm3 hcap1 hcap2 hs2
  have early : ∀ (hh : 1048576 < (t1 : Int) + (t2 : Int) + 8 * (n3 : Int) + (x.size : Int) + (y.size : Int) ∨ (¬ 1048576 < (t1 : Int) + (t2 : Int) + 8 * (n3 : Int) + (x.size : Int) + (y.size : Int) ∧ ((n1 : Int) ≠ (n2 : Int) ∨ ((n1 : Int) = (n2 : Int) ∧ (n3 : Int) ≠ (n1 : Int))))),
      Calls Try.prog 14 #[.slice a1 n1 c1, .slice a2 n2 c2, .int .i64 first, .slice a3 n3 c3, .string x, .string y] w fun e w' => e = .returned (.bool true) ∧ Below w.heap.size w w' := by
    intro hh
    go_enter Try.func14, Try.ntmps14
    go_wp2_with fail
    refine keepW K78.out ?_
    rintro e ⟨b, rfl, hb⟩
    clear hb
    cases b with
    | false =>
      go_wp2_with fail
      go_ret
      exact ⟨rfl, Below.refl _ _⟩
    | true =>
      go_wp2_with fail
      refine keepW K44a.out ?_
      rintro e rfl
      go_wp2_with fail
      refine keepW K44b.out ?_
      rintro e rfl
      rcases hh with hh | ⟨h1, hh | ⟨h2, hh⟩⟩
      · go_wp2_with fail
        go_ret
        exact ⟨rfl, Below.refl _ _⟩
      · have hb : ((n1 : Int) == (n2 : Int)) = false := by simpa using hh
        go_wp2_with fail
        go_ret
        exact ⟨rfl, Below.refl _ _⟩
      · obtain rfl : n1 = n2 := by omega
        have hb : ((n3 : Int) == (n1 : Int)) = false := by simpa using hh
        go_wp2_with fail
        go_ret
        exact ⟨rfl, Below.refl _ _⟩
  by_cases hsum : 1048576 < (t1 : Int) + (t2 : Int) + 8 * (n3 : Int) + (x.size : Int) + (y.size : Int)
  · exact early (.inl hsum)
  by_cases hl1 : n1 = n2
  case neg => exact early (.inr ⟨hsum, .inl (by omega)⟩)
  by_cases hl2 : n3 = n1
  case neg => exact early (.inr ⟨hsum, .inr ⟨by omega, by omega⟩⟩)
  clear early
  subst hl1
  subst hl2
  have hmk := run_make_any (P := Try.prog) 53 57 _ 2 32 (by exact Try.underlying53) Try.info57 .i64 .i64 n3 (by omega) (by omega)
  go_enter Try.func14, Try.ntmps14
  go_wp2_with fail
  refine keepW K78.out ?_
  rintro e ⟨b, rfl, hb⟩
  clear hb
  cases b with
  | false =>
    go_wp2_with fail
    go_ret
    exact ⟨rfl, Below.refl _ _⟩
  | true =>
  go_wp2_with fail
  refine keepW K44a.out ?_
  rintro e rfl
  go_wp2_with fail
  refine keepW K44b.out ?_
  rintro e rfl
  go_wp2_with fail
  clear K78 K44a K44b hsum
  refine (cloneStrs2_any a1 n3 c1 ss1 w hn1.out (by omega) ha1.out hc1.out).mono ?_
  rintro e w1 ⟨⟨p1, rfl, hp1, hd1⟩, hb1⟩
  replace hd1 := hid hd1
  replace hb1 := hid hb1
  clear hp1
  go_wp2_with fail
  refine (cloneStrs2_any a2 n3 c2 ss2 w1 hn2.out (by omega) ha2.out (hc2.out.below hb1.out)).mono ?_
  rintro e w2 ⟨⟨p2, rfl, hp2, hd2⟩, hb2⟩
  replace hd2 := hid hd2
  replace hb2 := hid hb2
  clear hp2
  go_wp2_with fail
  refine (cloneInts2_any a3 n3 c3 xs w2 hn3.out (by omega) ha3.out ((hc3.out.below hb1.out).below hb2.out)).mono ?_
  rintro e w3 ⟨⟨p3, rfl, hp3, hd3⟩, hb3⟩
  replace hd3 := hid hd3
  have hd1' : Hid (CellsAt w3 p1 (ss1.map .string)) := (hd1.out.below hb2.out).below hb3
  have hd2' : Hid (CellsAt w3 p2 (ss2.map .string)) := hd2.out.below hb3
  have hW3 : Hid (Below w.heap.size w w3) := hb1.out.trans ((hb2.out.mono hb1.out.size).trans (hb3.mono (Nat.le_trans hb1.out.size hb2.out.size)))
  clear hd1 hd2 hb1 hb2 hb3 hp3 hc1 hc2 hc3 ha1 ha2 ha3
  go_wp2_with fail
  clear hmk
  have hZ : Hid ((ss1.zip ss2).length = n3) := by show (ss1.zip ss2).length = n3; rw [List.length_zip, hn1.out, hn2.out]; omega
  go_loopw [14] (fun i wr => ∃ k : Nat, k ≤ n3 ∧ i = .int .i64 k ∧ (∃ arr, RowAt wr w3.heap.size 57 arr ∧ arr.size = n3 * 2 ∧ Filled arr (ss1.zip ss2) k) ∧ Below w3.heap.size w3 wr) (fun i _ => n3 - (intOf i).toNat)
  case atStart => exact ⟨0, Nat.zero_le _, rfl, ⟨_, RowAt.new _ _ _, size_madeCells _ _, fun j _ h => absurd h (by omega)⟩, (Below.refl _ _).alloc (Nat.le_refl _) _⟩
  case round =>
    obtain ⟨k, hk, rfl, ⟨arr, hrow, hsz, hfil⟩, hb⟩ := hrel
    by_cases hlt : k < n3
    · have hkl1 : k < ss1.length := by rw [hn1.out]; exact hlt
      have hkl2 : k < ss2.length := by rw [hn2.out]; exact hlt
      obtain ⟨b1, o1, rfl, hx1⟩ := hd1'.out k (by simpa using hkl1)
      obtain ⟨b2, o2, rfl, hx2⟩ := hd2'.out k (by simpa using hkl2)
      simp only [List.getElem_map] at hx1 hx2
      replace hx1 := cell_later hb hx1
      replace hx2 := cell_later hb hx2
      have hf0 := hrow.frozen (k * 2)
      have hf1 := hrow.frozen (k * 2 + 1)
      obtain ⟨v0, hv0⟩ := hrow.cellEx (j := k * 2) (by omega)
      obtain ⟨v1, hv1⟩ := hrow.cellEx (j := k * 2 + 1) (by omega)
      replace hfil := hid (hfil.set (k := k) (m := n3) (by rw [hZ.out]; exact hlt) hsz (by rw [hZ.out]; exact Nat.le_refl _))
      replace hrow := hid hrow
      replace hb := hid hb
      replace hsz := hid hsz
      have hlti : (k : Int) < (n3 : Int) := by omega
      go_wp2
      go_region
      go_wp2
      go_roundw
      case rel => exact ⟨k + 1, by omega, by go_num, ⟨_, (hrow.out.set _ _).set _ _, by simpa using hsz.out, by simpa using hfil.out⟩, ((hb.out.setCell (p := ⟨w3.heap.size, k * 2, none⟩) (Nat.le_refl _) _).setCell (p := ⟨w3.heap.size, k * 2 + 1, none⟩) (Nat.le_refl _) _).drew⟩
      case measure => simp [intOf]; omega
    have hkn : k = n3 := by omega
    subst hkn
    replace hrow := hid hrow
    replace hb := hid hb
    replace hfil := hid hfil
    replace hsz := hid hsz
    clear hlt hk
    go_wp2_with fail
    refine (newStanza2_any _ _ _ _ rfl wr).mono ?_
    rintro e w4 ⟨⟨p, rfl, hp, hpe⟩, hb4⟩
    have hrow4 : Hid (RowAt w4 w3.heap.size 57 arr) := hrow.out.below hb4 hrow.out.lt
    have hW4 : Hid (Below w3.heap.size w3 w4) := hb.out.trans (hb4.mono hb.out.size)
    have hpw : Hid (w3.heap.size < p) := by show w3.heap.size < p; rw [hpe]; exact hrow.out.lt
    replace hp := hid hp
    clear hrow hb hb4 hpe
    go_wp2_with fail
    refine (zzSetLines_yes p _ 0 ⟨#[]⟩ first p3 k k xs w4 hp.out hn3.out (by omega) (cells_upto hd3.out hW4.out)).mono ?_
    rintro e w5 ⟨rfl, hp5, hk5⟩
    have hrow5 := hrow4.out.kept hk5 (by have := hpw.out; omega)
    have hW5 : Hid (Below w3.heap.size w3 w5) := hW4.out.trans (hk5.below (Nat.le_of_lt (Nat.lt_trans hpw.out hp.out.lt)) (fun k hk => by have := hpw.out; omega))
    obtain ⟨ms, HMS⟩ : ∃ ms, Hid (ents ss1 ss2 xs = ms) := ⟨_, hid rfl⟩
    have hml : Hid (ms.length = k) := by show ms.length = k; rw [← HMS.out]; exact ents_length hn1.out hn2.out hn3.out
    have hat : Hid (∀ j (hj : j < ms.length) (h1 : j < ss1.length) (h2 : j < ss2.length) (h3 : j < xs.length), ms[j] = ⟨ss1[j], ss2[j], xs[j]⟩) := by
      intro j hj h1 h2 h3
      have e := HMS.out
      subst e
      exact ents_at j hj h1 h2 h3
    have hS5 : Hid (StzAt w5 p w3.heap.size k 0 first ms) := by
      refine ⟨?_, ⟨arr, hrow5, hsz.out, ?_⟩, by rw [hml.out]; exact Nat.le_refl _, by rw [hml.out]; omega, by have := hpw.out; omega, ?_, ?_, hfw.out⟩
      · rw [hml.out]
        have : ms.map Ent.line = xs := by rw [← HMS.out]; exact ents_line hn1.out hn2.out hn3.out
        rw [this]; exact hp5
      · intro j hj
        have hjk : j < k := by rw [← hml.out]; exact hj
        have h1 : j < ss1.length := by rw [hn1.out]; exact hjk
        have h2 : j < ss2.length := by rw [hn2.out]; exact hjk
        rw [hat.out j hj h1 h2 (by rw [hn3.out]; exact hjk)]
        have := hfil.out j (by rw [hZ.out]; exact hjk) hjk
        simpa [HasF] using this
      · intro z hz
        obtain ⟨j, hj, rfl⟩ := List.getElem_of_mem hz
        have hjk : j < k := by rw [← hml.out]; exact hj
        rw [hat.out j hj (by rw [hn1.out]; exact hjk) (by rw [hn2.out]; exact hjk) (by rw [hn3.out]; exact hjk)]
        exact hs1.out _ (List.getElem_mem _)
      · intro z hz
        obtain ⟨j, hj, rfl⟩ := List.getElem_of_mem hz
        have hjk : j < k := by rw [← hml.out]; exact hj
        rw [hat.out j hj (by rw [hn1.out]; exact hjk) (by rw [hn2.out]; exact hjk) (by rw [hn3.out]; exact hjk)]
        exact hx3.out _ (List.getElem_mem _)
    clear hp5 hk5 hrow5 hrow4 hp hfil hsz hW4 hZ HMS arr
    have hmkS := make0s k (by omega)
    have hmkI := make0 k (by omega)
    go_wp2_with fail
    clear hmkS hmkI
    obtain ⟨B1, hB1⟩ : ∃ B1, Hid (B1 = w5.heap.size) := ⟨_, hid rfl⟩
    obtain ⟨B2, hB2⟩ : ∃ B2, Hid (B2 = w5.heap.size + 1) := ⟨_, hid rfl⟩
    obtain ⟨B3, hB3⟩ : ∃ B3, Hid (B3 = w5.heap.size + 1 + 1) := ⟨_, hid rfl⟩
    go_loopw [16, 17, 18, 19] (fun t1 t2 t3 ti wr => ∃ i m : Nat, i ≤ k ∧ ti = .int .i64 i ∧ t1 = .slice (some ⟨B1, 0, none⟩) m k ∧ t2 = .slice (some ⟨B2, 0, none⟩) m k ∧ t3 = .slice (some ⟨B3, 0, none⟩) m k ∧ m ≤ i ∧ m = (both x y (ms.take i)).length ∧ Rows3 (both x y (ms.take i)) B1 B2 B3 k w5 wr m) (fun _ _ _ i _ => k - (intOf i).toNat)
    case atStart =>
      refine ⟨0, 0, Nat.zero_le _, rfl, by rw [hB1.out], by rw [hB2.out], by rw [hB3.out], Nat.le_refl _, by simp [both], ?_⟩
      refine ⟨?_, ?_, ?_, ?_⟩
      · rw [hB1.out]
        exact ((World.ownsRow_made w5 _ k (Nat.le_refl _) (by unfold maxLen; omega) (by simp [size_madeCells])).alloc _).alloc _
      · rw [hB2.out]
        have := (World.ownsRow_made (base := w5.heap.size) (e := 9) (size := 1) (w5.alloc (.cells (madeCells #[.string ByteArray.empty] k) 9)) (madeCells #[.string ByteArray.empty] k) k (by simp) (by unfold maxLen; omega) (by simp [size_madeCells]))
        simpa [both] using this.alloc _
      · rw [hB3.out]
        have := (World.ownsRow_made (base := w5.heap.size) (e := 3) (size := 1) ((w5.alloc (.cells (madeCells #[.string ByteArray.empty] k) 9)).alloc (.cells (madeCells #[.string ByteArray.empty] k) 9)) (madeCells #[.int .i64 0] k) k (by simp; omega) (by unfold maxLen; omega) (by simp [size_madeCells]))
        simpa [both] using this
      · exact (((Below.refl _ _).alloc (Nat.le_refl _) _).alloc (by simp) _).alloc (by simp; omega) _
    case round =>
      obtain ⟨i, m, hi, rfl, rfl, rfl, rfl, hmi, hm, hrows⟩ := hrel
      by_cases hlt : i < k
      · have hil : i < ms.length := by rw [hml.out]; exact hlt
        have h1 : i < ss1.length := by rw [hn1.out]; exact hlt
        have h2 : i < ss2.length := by rw [hn2.out]; exact hlt
        have h3 : i < xs.length := by rw [hn3.out]; exact hlt
        have hei := hat.out i hil h1 h2 h3
        obtain ⟨b1, o1, rfl, hx1⟩ := hd1'.out i (by simpa using h1)
        obtain ⟨b2, o2, rfl, hx2⟩ := hd2'.out i (by simpa using h2)
        obtain ⟨b3, o3, rfl, hx3c⟩ := hd3.out i (by simpa using h3)
        simp only [List.getElem_map] at hx1 hx2 hx3c
        have hsn := hs1.out _ (List.getElem_mem h1)
        have L : Hid (∀ wx, Below w5.heap.size w5 wx → wx.cell? ⟨b1, o1 + i, none⟩ = some (.string ss1[i]) ∧ wx.cell? ⟨b2, o2 + i, none⟩ = some (.string ss2[i]) ∧ wx.cell? ⟨b3, o3 + i, none⟩ = some (.int .i64 xs[i])) := by
          intro wx hb
          have hh := hW5.out.trans (hb.mono hW5.out.size)
          exact ⟨cell_later hh hx1, cell_later hh hx2, cell_later hh hx3c⟩
        have hnm : Hid (ms[i].name = ss1[i]) := by show ms[i].name = ss1[i]; rw [hei]
        have hvl : Hid (ms[i].value = ss2[i]) := by show ms[i].value = ss2[i]; rw [hei]
        have hln : Hid (ms[i].line = xs[i]) := by show ms[i].line = xs[i]; rw [hei]
        clear hx1 hx2 hx3c hei
        replace hm := hid hm
        have hlti : (i : Int) < (k : Int) := by omega
        have hc1 := (L.out wr hrows.bel).1
        replace hrows := hid hrows
        cases hA : sameB 0 ss1[i] x with
        | true =>
          have HA := hid hA
          clear hA
          go_wp2_with (go_at_call 79; refine Calls.mono (sameFold_is _ _ true HA.out _ hsn hx.out) ?_; rintro e wa ⟨rfl, q, hq⟩; replace hq := hid hq)
          have hyes : Hid (both x y (ms.take (i + 1)) = both x y (ms.take i)) := both_yes hil (by rw [hnm.out, HA.out]; rfl)
          go_roundw
          case rel => exact ⟨i + 1, m, by omega, by go_num, rfl, rfl, rfl, by omega, by rw [hyes.out]; exact hm.out, by rw [hyes.out, hq.out]; exact hrows.out.later (below_drewN (Below.refl _ _) _)⟩
          case measure => simp [intOf]; omega
        | false =>
          have HA := hid hA
          clear hA
          cases hB : sameB 0 ss1[i] y with
          | true =>
            have HB := hid hB
            clear hB
            go_wp2_with fail
            refine Calls.mono (sameFold_is _ _ false HA.out _ hsn hx.out) ?_
            rintro e wa ⟨rfl, q, hq⟩
            have hBa : Below wr.heap.size wr wa := by rw [hq]; exact below_drewN (Below.refl _ _) _
            have hc1a := cell_later hBa hc1
            replace hBa := hid hBa
            clear hq
            go_wp2_with fail
            refine Calls.mono (sameFold_is _ _ true HB.out _ hsn hy.out) ?_
            rintro e wb ⟨rfl, q', hq⟩
            have hBb : Hid (Below wr.heap.size wr wb) := by show Below wr.heap.size wr wb; rw [hq]; exact below_drewN hBa.out _
            clear hq hc1 hc1a
            have hyes : Hid (both x y (ms.take (i + 1)) = both x y (ms.take i)) := both_yes hil (by rw [hnm.out, HB.out]; simp)
            go_wp2_with fail
            go_roundw
            case rel => exact ⟨i + 1, m, by omega, by go_num, rfl, rfl, rfl, by omega, by rw [hyes.out]; exact hm.out, by rw [hyes.out]; exact hrows.out.later hBb.out⟩
            case measure => simp [intOf]; omega
          | false =>
            have HB := hid hB
            clear hB
            go_wp2_with fail
            refine Calls.mono (sameFold_is _ _ false HA.out _ hsn hx.out) ?_
            rintro e wa ⟨rfl, q, hq⟩
            have hBa : Below wr.heap.size wr wa := by rw [hq]; exact below_drewN (Below.refl _ _) _
            have hc1a := cell_later hBa hc1
            replace hBa := hid hBa
            clear hq
            go_wp2_with fail
            refine Calls.mono (sameFold_is _ _ false HB.out _ hsn hy.out) ?_
            rintro e wb ⟨rfl, q', hq⟩
            have hBb : Below wr.heap.size wr wb := by rw [hq]; exact below_drewN hBa.out _
            have hr := hrows.out.later hBb
            clear hq hc1 hc1a hBa hBb hrows
            have hno : Hid (both x y (ms.take (i + 1)) = both x y (ms.take i) ++ [ms[i]]) := both_no hil (by rw [hnm.out, HA.out, HB.out]; rfl)
            obtain ⟨i9, hi9, hz90, hz91, hz92⟩ := info_parts Try.info9
            obtain ⟨i3, hi3, hz30, hz31, hz32⟩ := info_parts Try.info3
            replace hi9 := hid hi9
            replace hz91 := hid hz91
            replace hi3 := hid hi3
            replace hz31 := hid hz31
            clear hz90 hz92 hz30 hz32
            obtain ⟨r1, r2, r3, rb⟩ := hr
            have hc1 := (L.out wb rb).1
            have hrbs := rb.size
            replace r1 := hid r1
            replace r2 := hid r2
            replace r3 := hid r3
            replace rb := hid rb
            go_upto_region 25 with (at_builtin; refine wpList_append_fits _ rfl (.tmp 122) (.tmp 127) 22 rfl w5.heap.size 9 i9 1 Try.underlying22 hi9.out hz91.out B1 m k _ rfl (r1.out.alloc _) ⟨wb.heap.size, 0, none⟩ 1 1 [.string ss1[i]] rfl rfl (one_new rfl _ _) (by intro u hu; simp at hu; subst hu; rfl) (by omega) ?_; intro wc hownc hgrc; replace hownc := hid hownc; replace hgrc := hid hgrc)
            have hBc : Below w5.heap.size w5 wc := (rb.out.alloc hrbs _).trans ((Below.refl _ _).grown hgrc.out (rb.out.alloc hrbs _).size (fun j hj => by cases hj; rw [hB1.out]; exact Nat.le_refl _))
            have r2c : Hid (wc.ownsRow w5.heap.size 9 1 (.slice (some ⟨B2, 0, none⟩) m k) m ((both x y (ms.take i)).map fun e => .string e.value)) := (r2.out.alloc _).kept hgrc.out (.inr (by have := hB1.out; have := hB2.out; simp [Value.ownBlock]; omega))
            have r3c : Hid (wc.ownsRow w5.heap.size 3 1 (.slice (some ⟨B3, 0, none⟩) m k) m ((both x y (ms.take i)).map fun e => .int .i64 e.line)) := (r3.out.alloc _).kept hgrc.out (.inr (by have := hB1.out; have := hB3.out; simp [Value.ownBlock]; omega))
            have hc2 := (L.out wc hBc).2.1
            have hcs := hBc.size
            replace hBc := hid hBc
            clear hc1 r1 r2 r3 rb hgrc hrbs
            go_upto_region 26 with (at_builtin; refine wpList_append_fits _ rfl (.tmp 129) (.tmp 134) 22 rfl w5.heap.size 9 i9 1 Try.underlying22 hi9.out hz91.out B2 m k _ rfl (r2c.out.alloc _) ⟨wc.heap.size, 0, none⟩ 1 1 [.string ss2[i]] rfl rfl (one_new rfl _ _) (by intro u hu; simp at hu; subst hu; rfl) (by omega) ?_; intro wd hownd hgrd; replace hownd := hid hownd; replace hgrd := hid hgrd)
            have hBd : Below w5.heap.size w5 wd := (hBc.out.alloc hcs _).trans ((Below.refl _ _).grown hgrd.out (hBc.out.alloc hcs _).size (fun j hj => by cases hj; rw [hB2.out]; omega))
            have r1d : Hid (wd.ownsRow w5.heap.size 9 1 (.slice (some ⟨B1, 0, none⟩) (m + 1) k) (m + 1) (((both x y (ms.take i)).map fun e => Value.string e.name) ++ [.string ss1[i]])) := (hownc.out.alloc _).kept hgrd.out (.inr (by have := hB1.out; have := hB2.out; simp [Value.ownBlock]; omega))
            have r3d : Hid (wd.ownsRow w5.heap.size 3 1 (.slice (some ⟨B3, 0, none⟩) m k) m ((both x y (ms.take i)).map fun e => .int .i64 e.line)) := (r3c.out.alloc _).kept hgrd.out (.inr (by have := hB2.out; have := hB3.out; simp [Value.ownBlock]; omega))
            have hc3 := (L.out wd hBd).2.2
            have hds := hBd.size
            replace hBd := hid hBd
            clear hc2 hownc r2c r3c hgrd hBc hcs
            go_wp2_with (at_builtin; refine wpList_append_fits _ rfl (.tmp 136) (.tmp 141) 45 rfl w5.heap.size 3 i3 1 Try.underlying45 hi3.out hz31.out B3 m k _ rfl (r3d.out.alloc _) ⟨wd.heap.size, 0, none⟩ 1 1 [.int .i64 xs[i]] rfl rfl (one_new rfl _ _) (by intro u hu; simp at hu; subst hu; rfl) (by omega) ?_; intro we howne hgre; replace howne := hid howne; replace hgre := hid hgre)
            have hBe : Hid (Below w5.heap.size w5 we) := (hBd.out.alloc hds _).trans ((Below.refl _ _).grown hgre.out (hBd.out.alloc hds _).size (fun j hj => by cases hj; rw [hB3.out]; omega))
            have r1e : Hid (we.ownsRow w5.heap.size 9 1 (.slice (some ⟨B1, 0, none⟩) (m + 1) k) (m + 1) (((both x y (ms.take i)).map fun e => Value.string e.name) ++ [.string ss1[i]])) := (r1d.out.alloc _).kept hgre.out (.inr (by have := hB1.out; have := hB3.out; simp [Value.ownBlock]; omega))
            have r2e : Hid (we.ownsRow w5.heap.size 9 1 (.slice (some ⟨B2, 0, none⟩) (m + 1) k) (m + 1) (((both x y (ms.take i)).map fun e => Value.string e.value) ++ [.string ss2[i]])) := (hownd.out.alloc _).kept hgre.out (.inr (by have := hB2.out; have := hB3.out; simp [Value.ownBlock]; omega))
            go_roundw
            case rel =>
              refine ⟨i + 1, m + 1, by omega, by go_num, rfl, rfl, rfl, by omega, by rw [hno.out, List.length_append, ← hm.out]; rfl, ?_, ?_, ?_, hBe.out⟩
              · rw [hno.out, List.map_append]; simpa [hnm.out] using r1e.out
              · rw [hno.out, List.map_append]; simpa [hvl.out] using r2e.out
              · rw [hno.out, List.map_append]; simpa [hln.out] using howne.out
            case measure => simp [intOf]; omega
      · have hik : i = k := by omega
        subst hik
        have etk : ms.take i = ms := List.take_of_length_le (by rw [hml.out]; exact Nat.le_refl _)
        rw [etk] at hm hrows
        have hSr := hS5.out.later hrows.bel
        have hcr1 := hid (owns_cells hrows.o1)
        have hcr2 := hid (owns_cells hrows.o2)
        have hcr3 := hid (owns_cells hrows.o3)
        have hWr : Hid (Below w3.heap.size w3 wr) := hW5.out.trans (hrows.bel.mono hW5.out.size)
        have hw5r : Hid (w5.heap.size ≤ wr.heap.size) := hrows.bel.size
        have hp5 : Hid (p < w5.heap.size) := hS5.out.row.lt
        have hf5 : Hid (w3.heap.size < w5.heap.size) := by obtain ⟨A, hA, _⟩ := hS5.out.fields; exact hA.lt
        have KD := hid (hSr.delete x hx.out)
        replace hm := hid hm
        clear hrows hSr hS5 etk hlt hd1' hd2' hd3
        go_wp2_with fail
        refine Calls.mono KD.out ?_
        rintro e w6 ⟨rfl, hS6, hk6⟩
        have KD2 := hid (hS6.delete y hy.out)
        replace hk6 := hid hk6
        clear KD hS6
        go_wp2_with fail
        refine Calls.mono KD2.out ?_
        rintro e w7 ⟨rfl, hS7, hk7⟩
        rw [both_keep] at hS7
        obtain ⟨ks, HKS⟩ : ∃ ks, Hid (both x y ms = ks) := ⟨_, hid rfl⟩
        rw [HKS.out] at hS7 hm hcr1 hcr2 hcr3
        have hk67 := hk6.out.trans hk7
        have hnot : ∀ b, w5.heap.size ≤ b → ¬ (b = p ∨ b = w3.heap.size) := by intro b hb; have := hp5.out; have := hf5.out; omega
        have hcs1 := hid (hcr1.out.kept hk67 (hnot B1 (by rw [hB1.out]; exact Nat.le_refl _)))
        have hcs2 := hid (hcr2.out.kept hk67 (hnot B2 (by rw [hB2.out]; omega)))
        have hcs3 := hid (hcr3.out.kept hk67 (hnot B3 (by rw [hB3.out]; omega)))
        have hW7 : Hid (Below w3.heap.size w3 w7) := hWr.out.trans (hk67.below (by have := hWr.out.size; exact this) (fun b hb => by have := hpw.out; omega))
        have hp0 : w7.cell? ⟨p, 0, none⟩ = some (.slice (some ⟨w3.heap.size, 0, none⟩) m i) := by rw [hm.out]; exact hS7.row.cell 0
        have KL := hid (line_first p m first (-1) _ w7 (by omega) (hS7.lines93' hm.out.symm))
        replace hS7 := hid hS7
        clear KD2 hk6 hk7 hk67 hnot hcr1 hcr2 hcr3 hWr
        have hfe : (first == first) = true := by simp
        have hme : ((m : Int) == (m : Int)) = true := by simp
        go_wp2_with (go_at_call 77; refine Calls.mono KL.out ?_; rintro e w8 ⟨rfl, hb8⟩; replace hb8 := hid hb8)
        clear KL hp0 hfe hme
        have hmi' : (m : Int) ≤ (i : Int) := by omega
        go_loopw [20] (fun ti wx => ∃ j : Nat, j ≤ m ∧ ti = .int .i64 j ∧ Below w7.heap.size w7 wx) (fun ti _ => m - (intOf ti).toNat)
        case atStart => exact ⟨0, Nat.zero_le _, rfl, hb8.out⟩
        case round =>
          obtain ⟨j, hj, rfl, hbx⟩ := hrel
          by_cases hjm : j < m
          · have hjk : j < ks.length := by rw [← hm.out]; exact hjm
            have hSx := hS7.out.later hbx
            obtain ⟨A, hA1, hA2, hA3⟩ := hSx.fields
            have hp0 : ∀ wx, Below w7.heap.size w7 wx → wx.cell? ⟨p, 0, none⟩ = some (.slice (some ⟨w3.heap.size, 0, none⟩) m i) := fun wx hb => by rw [hm.out]; exact (hS7.out.later hb).row.cell 0
            have y0 := hp0 wr hbx
            have y1 : wr.cell? ⟨w3.heap.size, j * 2, none⟩ = some (.string ks[j].name) := (hA1.cell _).trans (hA3 j hjk).1
            have y2 : wr.cell? ⟨w3.heap.size, j * 2 + 1, none⟩ = some (.string ks[j].value) := (hA1.cell _).trans (hA3 j hjk).2
            have y3 : wr.cell? ⟨B1, j, none⟩ = some (.string ks[j].name) := by
              have := cell_later hbx (hcs1.out.at0 (j := j) (by simpa using hjk)); simpa using this
            have y4 : wr.cell? ⟨B2, j, none⟩ = some (.string ks[j].value) := by
              have := cell_later hbx (hcs2.out.at0 (j := j) (by simpa using hjk)); simpa using this
            clear hp0 hA1 hA2 hA3 A hSx
            replace hbx := hid hbx
            have hji : (j : Int) < (m : Int) := by omega
            have hji' : (j : Int) < (i : Int) := by omega
            go_wp2_with fail
            go_quiet (fail)
            go_upto_region 36 with fail
            refine at_world (fun wb => Below w7.heap.size w7 wb) (below_drewN hbx.out _) ?_
            clear y0 y1 y2 y3 y4 hbx
            intro wb hbb
            obtain ⟨I, hI, W, hWB, hWall⟩ := class_of (Below wb.heap.size wb) ⟨wb, Below.refl _ _⟩
            have KL : Hid (∀ q, Calls Try.prog 77 #[.pointer (some ⟨p, 0, none⟩), .int .i64 (j : Int)] (W q) fun e w'' => e = .returned (.int .i64 ks[j].line) ∧ ∃ q', w'' = W q') := by
              intro q
              have hq := hWB q
              have hh := line_at p m first (ks.map Ent.line) j (W q) (by rw [List.length_map]; exact hm.out.symm) (by simpa using hjk) (by omega) ((hS7.out.later (hbb.trans (hq.mono hbb.size))).lines93' hm.out.symm)
              simp only [List.getElem_map] at hh
              refine hh.mono ?_
              rintro e w'' ⟨rfl, hb⟩
              exact ⟨rfl, hWall w'' (hq.trans (hb.mono hq.size))⟩
            have z1 : ∀ q, (W q).cell? ⟨B3, j, none⟩ = some (.int .i64 ks[j].line) := fun q => by
              have := cell_later (hbb.trans ((hWB q).mono hbb.size)) (hcs3.out.at0 (j := j) (by simpa using hjk)); simpa using this
            replace hWB := hid hWB
            replace hWall := hid hWall
            replace hbb := hid hbb
            go_cut [204] (fun t wx => t = .bool false ∧ Below wb.heap.size wb wx)
            case first =>
              refine wp_region_later W (hWall.out _ (Below.refl _ _).drew) (by kernel_rfl) (by kernel_rfl) ?_
              repeat (go_big_quiet_step ((go_at_call 77; exact KL.out _)))
              refine wpQuiet_nil ?_
              rintro _ ⟨iq, rfl⟩
              go_wp2_with fail
              go_meet
              case rel => exact ⟨rfl, hWB.out iq⟩
            case rest =>
              obtain ⟨rfl, hbc⟩ := hcut
              replace hbc := hid hbc
              go_wp2_with fail
              go_roundw
              case rel => exact ⟨j + 1, by omega, by go_num, hbb.out.trans (hbc.out.mono hbb.out.size)⟩
              case measure => simp [intOf]; omega
          · have KF := zzFieldLines_of p wr (fun a b c w' => ∃ g, a = .int .i64 first ∧ b = .slice (some ⟨g, 0, none⟩) m m ∧ c = .bool true ∧ Below wr.heap.size wr w')
              (((hS7.out.later hbx).lines93' hm.out.symm).mono fun e w' ⟨⟨g, he, hrow, _⟩, hb⟩ => ⟨_, _, _, he, g, rfl, rfl, rfl, hb⟩)
            replace KF := hid KF
            replace hbx := hid hbx
            have hfe : (first == first) = true := by simp
            have hme : ((m : Int) == (m : Int)) = true := by simp
            go_wp2_with fail
            refine Calls.mono KF.out ?_
            rintro e w9 ⟨x1, x2, x3, rfl, g, rfl, rfl, rfl, hb9⟩
            replace hb9 := hid hb9
            go_wp2_with fail
            go_ret
            exact ⟨rfl, hW3.out.trans ((hW7.out.trans ((hbx.out.trans (hb9.out.mono hbx.out.size)).mono hW7.out.size)).mono hW3.out.size)⟩

end Go.Proofs.Qxb6001690a
