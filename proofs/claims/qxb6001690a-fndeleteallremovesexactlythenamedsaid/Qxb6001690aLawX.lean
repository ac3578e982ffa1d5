import Derived.Test.Qxb6001690aStr
import Derived.Test.Qxb6001690aLawD
import Derived.Deep.RegionWith
namespace Go.Proofs.Qxb6001690a
open Go.RowKit
set_option linter.unusedVariables false
set_option linter.unusedSimpArgs false

theorem BufAt.later {w w' : World} {B : Nat} {a : Option Addr} {c : Nat} {l : List UInt8} (h : BufAt w B a c l) (hb : Below w.heap.size w w') : BufAt w' B a c l := by
  refine ⟨h.1.kept (row := none) ⟨hb.os, hb.tape, hb.output, hb.size, fun k hk _ => hb.block k hk⟩ ?_, by have := hb.size; have := h.2; omega⟩
  cases a with
  | none => exact .inl rfl
  | some a => exact .inr (by simp [Value.ownBlock])
theorem keepOf_idem (r : Int) (name : ByteArray) (ms : List Ent) : keepOf r name (keepOf r name ms) = keepOf r name ms := by
  unfold keepOf; rw [List.filter_filter]; simp

/-- A stanza as the law makes it, either way. -/
structure Made (w3 wx : World) (p f n : Nat) (r first : Int) (ms : List Ent) : Prop where
  row : ∃ l, RowAt wx p 65 (stanzaCells (.slice (some ⟨f, 0, none⟩) n n) r l)
  fields : ∃ A, RowAt wx f 57 A ∧ A.size = n * 2 ∧ ∀ j (h : j < ms.length), HasF A ms[j] j
  apart : p ≠ f
  len : ms.length = n
  lines : ∀ x ∈ ms, (Lit.int .i64 x.line).wf = true
  read : ∀ wy, Below wx.heap.size wx wy → Calls Try.prog 93 #[.pointer (some ⟨p, 0, none⟩)] wy fun e w' => (∃ g, e = .returned (.tuple #[.int .i64 first, .slice (some ⟨g, 0, none⟩) n n, .bool true]) ∧ RowAt w' g 3 (ms.map fun x => .int .i64 x.line).toArray ∧ wy.heap.size ≤ g) ∧ Below wy.heap.size wy w'
  pnew : w3.heap.size ≤ p
  fnew : w3.heap.size ≤ f
  bel : Below w3.heap.size w3 wx

set_option maxRecDepth 100000 in
set_option maxHeartbeats 8000000 in
theorem lawX (a1 a2 a3 : Option Addr) (n1 n2 n3 c1 c2 c3 : Nat) (ss1 ss2 : List ByteArray) (xs : List Int) (r first : Int) (cp : Bool) (name : ByteArray) (w : World)
    (hn1 : ss1.length = n1) (hn2 : ss2.length = n2) (hn3 : xs.length = n3) (hm1 : n1 ≤ maxLen) (hm2 : n2 ≤ maxLen) (hm3 : n3 ≤ maxLen) (hs1 : ∀ s ∈ ss1, s.size ≤ maxLen) (hs2 : ∀ s ∈ ss2, s.size ≤ maxLen) (hx3 : ∀ x ∈ xs, (Lit.int .i64 x).wf = true) (hfw : (Lit.int .i64 first).wf = true) (hname : name.size ≤ maxLen)
    (hc1 : CellsAt w a1 (ss1.map .string)) (hc2 : CellsAt w a2 (ss2.map .string)) (hc3 : CellsAt w a3 (xs.map (.int .i64))) (ha1 : a1 = none → n1 = 0) (ha2 : a2 = none → n2 = 0) (ha3 : a3 = none → n3 = 0) :
    Calls Try.prog 11 #[.slice a1 n1 c1, .slice a2 n2 c2, .int .u8 r, .bool cp, .int .i64 first, .slice a3 n3 c3, .string name] w fun e w' => e = .returned (.bool true) ∧ Below w.heap.size w w' := by
  have hG1 := strsBytes_bd ss1 0 (by omega)
  have hG2 := strsBytes_bd ss2 (strsBytes 0 ss1) hG1.1
  have hG3 := flatBytes_bd (strsBytes (strsBytes 0 ss1) ss2) 8 n3 (by omega) hG2.1
  have K61 := zzBytes61_any a1 a2 a3 n1 n2 n3 c1 c2 c3 ss1 ss2 (.int .u8 r) (.bool cp) (.int .i64 first) name w hn1 hn2 hm1 hm2 hm3 hname hs1 hs2 hc1 hc2
  have K17a := strsBytes_any 0 a1 n1 c1 ss1 w hn1 (by omega) (by omega) hm1 hs1 hc1
  have K17b := strsBytes_any (strsBytes 0 ss1) a2 n2 c2 ss2 w hn2 hG1.1 hG1.2 hm2 hs2 hc2
  have K57 := intsBytes_any (strsBytes (strsBytes 0 ss1) ss2) a3 n3 c3 w hG2.1 hG2.2 hm3
  have K16 := strBytes_any (flatBytes (strsBytes (strsBytes 0 ss1) ss2) 8 n3) name w hG3.1 hG3.2 hname
  generalize e1 : strsBytes 0 ss1 = G1 at K17a K17b K57 K16
  generalize e2 : strsBytes G1 ss2 = G2 at K17b K57 K16
  generalize e3 : flatBytes G2 8 n3 = G3 at K57 K16
  generalize e4 : strBytes G3 name = G at K16
  replace K61 := hid K61
  replace K17a := hid K17a
  replace K17b := hid K17b
  replace K57 := hid K57
  replace K16 := hid K16
  have hsum : G ≤ 1048576 → 16 * n1 + total ss1 + 16 * n2 + total ss2 + 8 * n3 + name.size ≤ 1048576 := by
    intro h
    have h4 := strBytes_le (t := G3) (s := name) (by rw [e4]; exact h)
    rw [e4] at h4
    have h3 := flatBytes_le (t := G2) (k := 8) (n := n3) (by rw [e3]; omega)
    rw [e3] at h3
    have h2 := strsBytes_le (t := G1) (ss := ss2) (by rw [e2]; omega)
    rw [e2] at h2
    have h1 := strsBytes_le (t := 0) (ss := ss1) (by rw [e1]; omega)
    rw [e1, hn1] at h1
    rw [hn2] at h2
    omega
  clear e1 e2 e3 e4 hG1 hG2 hG3
  have hmx : maxLen = maxLen := rfl
  replace hn1 := hid hn1
  replace hn2 := hid hn2
  replace hn3 := hid hn3
  replace hs1 := hid hs1
  replace hs2 := hid hs2
  replace hx3 := hid hx3
  replace hfw := hid hfw
  replace hc1 := hid hc1
  replace hc2 := hid hc2
  replace hc3 := hid hc3
  replace ha1 := hid ha1
  replace ha2 := hid ha2
  replace ha3 := hid ha3
  replace hname := hid hname
  unfold maxLen at hm1 hm2 hm3
  clear hmx
  have early : ∀ (hh : 1048576 < G ∨ (¬ 1048576 < G ∧ ((n1 : Int) ≠ (n2 : Int) ∨ ((n1 : Int) = (n2 : Int) ∧ (4096 < (n1 : Int) ∨ (¬ 4096 < (n1 : Int) ∧ cp = false ∧ (n3 : Int) ≠ (n1 : Int))))))),
      Calls Try.prog 11 #[.slice a1 n1 c1, .slice a2 n2 c2, .int .u8 r, .bool cp, .int .i64 first, .slice a3 n3 c3, .string name] w fun e w' => e = .returned (.bool true) ∧ Below w.heap.size w w' := by
    intro hh
    clear hsum
    go_enter Try.func11, Try.ntmps11
    go_wp2_with (go_at_call 61; refine keepW K61.out ?_; rintro e ⟨b, rfl⟩; cases b)
    · go_ret
      exact ⟨rfl, Below.refl _ _⟩
    refine keepW K17a.out ?_
    rintro e rfl
    go_wp2_with fail
    refine keepW K17b.out ?_
    rintro e rfl
    go_wp2_with fail
    refine keepW K57.out ?_
    rintro e rfl
    go_wp2_with fail
    refine keepW K16.out ?_
    rintro e rfl
    rcases hh with hh | ⟨h1, hh | ⟨h2, hh | ⟨h3, rfl, hh⟩⟩⟩
    · go_wp2_with fail
      go_ret
      exact ⟨rfl, Below.refl _ _⟩
    · have hb : ((n1 : Int) == (n2 : Int)) = false := by simpa using hh
      go_wp2_with fail
      go_ret
      exact ⟨rfl, Below.refl _ _⟩
    · obtain rfl : n1 = n2 := by omega
      go_wp2_with fail
      go_ret
      exact ⟨rfl, Below.refl _ _⟩
    · obtain rfl : n1 = n2 := by omega
      have hb : ((n3 : Int) == (n1 : Int)) = false := by simpa using hh
      go_wp2_with fail
      go_ret
      exact ⟨rfl, Below.refl _ _⟩
  by_cases hbig : 1048576 < G
  · exact early (.inl hbig)
  by_cases hl1 : n1 = n2
  case neg => exact early (.inr ⟨hbig, .inl (by omega)⟩)
  by_cases hl2 : n1 ≤ 4096
  case neg => exact early (.inr ⟨hbig, .inr ⟨by omega, .inl (by omega)⟩⟩)
  by_cases hl3 : cp = true ∨ n3 = n1
  case neg => exact early (.inr ⟨hbig, .inr ⟨by omega, .inr ⟨by omega, by cases cp <;> simp_all, by omega⟩⟩⟩)
  clear early
  replace hsum := hsum (by omega)
  subst hl1
  cases cp with
  | false =>
    obtain rfl : n3 = n1 := by simpa using hl3
    clear hl3
    go_enter Try.func11, Try.ntmps11
    go_wp2_with (go_at_call 61; refine keepW K61.out ?_; rintro e ⟨b, rfl⟩; cases b)
    · go_ret
      exact ⟨rfl, Below.refl _ _⟩
    refine keepW K17a.out ?_
    rintro e rfl
    go_wp2_with fail
    refine keepW K17b.out ?_
    rintro e rfl
    go_wp2_with fail
    refine keepW K57.out ?_
    rintro e rfl
    go_wp2_with fail
    refine keepW K16.out ?_
    rintro e rfl
    go_wp2_with fail
    clear K61 K17a K17b K57 K16 hbig
    refine (cloneStrs_any a1 n3 c1 ss1 w hn1.out (by omega) ha1.out hc1.out).mono ?_
    rintro e w1 ⟨⟨p1, rfl, hp1, hd1⟩, hb1⟩
    replace hd1 := hid hd1
    replace hb1 := hid hb1
    clear hp1
    go_wp2_with fail
    refine (cloneStrs_any a2 n3 c2 ss2 w1 hn2.out (by omega) ha2.out (hc2.out.below hb1.out)).mono ?_
    rintro e w2 ⟨⟨p2, rfl, hp2, hd2⟩, hb2⟩
    replace hd2 := hid hd2
    replace hb2 := hid hb2
    clear hp2
    go_wp2_with fail
    refine (cloneInts_any a3 n3 c3 xs w2 hn3.out (by omega) ha3.out ((hc3.out.below hb1.out).below hb2.out)).mono ?_
    rintro e w3 ⟨⟨p3, rfl, hp3, hd3⟩, hb3⟩
    replace hd3 := hid hd3
    have hd1' : Hid (CellsAt w3 p1 (ss1.map .string)) := (hd1.out.below hb2.out).below hb3
    have hd2' : Hid (CellsAt w3 p2 (ss2.map .string)) := hd2.out.below hb3
    have hW3 : Hid (Below w.heap.size w w3) := hb1.out.trans ((hb2.out.mono hb1.out.size).trans (hb3.mono (Nat.le_trans hb1.out.size hb2.out.size)))
    clear hd1 hd2 hb1 hb2 hb3 hp3 hc1 hc2 hc3 ha1 ha2 ha3
    go_wp2_with fail
    refine (zzFields_any p1 p2 n3 n3 n3 ss1 ss2 w3 hn1.out hn2.out (by omega) hd1'.out hd2'.out).mono ?_
    rintro e w4 ⟨⟨f, rfl, hrow4, hg4⟩, hb4⟩
    replace hb4 := hid hb4
    replace hrow4 := hid hrow4
    replace hg4 := hid hg4
    go_wp2_with fail
    refine (newStanza_any _ _ _ _ r _ rfl w4).mono ?_
    rintro e w5 ⟨⟨p, rfl, hp, hpe⟩, hb5⟩
    have hW5 : Hid (Below w3.heap.size w3 w5) := hb4.out.trans (hb5.mono hb4.out.size)
    have hpw : Hid (w3.heap.size ≤ p) := by have := hb4.out.size; show w3.heap.size ≤ p; omega
    have hpf : Hid (p ≠ f) := by have := hrow4.out.lt; show p ≠ f; omega
    have hrow5 : Hid (RowAt w5 f 57 (fieldCells (ss1.zip ss2)).toArray) := hrow4.out.below hb5 hrow4.out.lt
    replace hp := hid hp
    clear hb4 hb5 hpe hrow4
    go_wp2_with fail
    refine (zzSetLines_yes p _ r _ first p3 n3 n3 xs w5 hp.out hn3.out (by omega) (cells_upto hd3.out hW5.out)).mono ?_
    rintro e w6 ⟨rfl, hp6, hk6⟩
    have hrow6 := hrow5.out.kept hk6 (Ne.symm hpf.out)
    have hW6 : Hid (Below w3.heap.size w3 w6) := hW5.out.trans (hk6.below (Nat.le_of_lt (Nat.lt_of_le_of_lt hpw.out hp.out.lt)) (fun k hk => by have := hpw.out; omega))
    obtain ⟨ls, HLS⟩ : ∃ ls, Hid (xs = ls) := ⟨_, hid rfl⟩
    have hnl : Hid (ls.length = n3) := by show ls.length = n3; rw [← HLS.out]; exact hn3.out
    have hlw : Hid (∀ x ∈ ls, (Lit.int .i64 x).wf = true) := by show ∀ x ∈ ls, _; rw [← HLS.out]; exact hx3.out
    have hread : Hid (∀ wy, Below w6.heap.size w6 wy → Calls Try.prog 93 #[.pointer (some ⟨p, 0, none⟩)] wy fun e w' => (∃ g, e = .returned (.tuple #[.int .i64 first, .slice (some ⟨g, 0, none⟩) n3 n3, .bool true]) ∧ RowAt w' g 3 (ls.map (.int .i64)).toArray ∧ wy.heap.size ≤ g) ∧ Below wy.heap.size wy w') := by
      intro wy hb
      rw [← HLS.out]
      exact fieldLines_ok p _ n3 n3 r first xs wy hn3.out (by omega) hfw.out hx3.out (hp6.below hb hp6.lt)
    have hrl : Hid (∃ l, RowAt w6 p 65 (stanzaCells (.slice (some ⟨f, 0, none⟩) n3 n3) r l)) := ⟨_, hp6⟩
    replace hrow6 := hid hrow6
    clear hp6 hk6 hrow5 hp HLS hd3 hx3
    obtain ⟨ms, HMS⟩ : ∃ ms, Hid (ents ss1 ss2 ls = ms) := ⟨_, hid rfl⟩
    have hml : Hid (ms.length = n3) := by show ms.length = n3; rw [← HMS.out]; exact ents_length hn1.out hn2.out hnl.out
    have hat : Hid (∀ j (hj : j < ms.length) (h1 : j < ss1.length) (h2 : j < ss2.length) (h3 : j < ls.length), ms[j] = ⟨ss1[j], ss2[j], ls[j]⟩) := by
      intro j hj h1 h2 h3
      have e := HMS.out
      subst e
      exact ents_at j hj h1 h2 h3
    have hnm : Hid (∀ j (hj : j < ms.length) (h1 : j < ss1.length), ms[j].name = ss1[j]) := by
      intro j hj h1
      have hjk : j < n3 := by rw [← hml.out]; exact hj
      rw [hat.out j hj h1 (by rw [hn2.out]; exact hjk) (by rw [hnl.out]; exact hjk)]
    have hvl : Hid (∀ j (hj : j < ms.length) (h2 : j < ss2.length), ms[j].value = ss2[j]) := by
      intro j hj h2
      have hjk : j < n3 := by rw [← hml.out]; exact hj
      rw [hat.out j hj (by rw [hn1.out]; exact hjk) h2 (by rw [hnl.out]; exact hjk)]
    have hfil : Hid (∀ j (h : j < ms.length), HasF (fieldCells (ss1.zip ss2)).toArray ms[j] j) := by
      intro j hj
      have hjk : j < n3 := by rw [← hml.out]; exact hj
      have hz : j < (ss1.zip ss2).length := by rw [List.length_zip, hn1.out, hn2.out]; omega
      refine ⟨?_, ?_⟩
      · rw [hnm.out j hj (by rw [hn1.out]; exact hjk)]; simpa using fieldCells_0 (ss1.zip ss2) j hz
      · rw [hvl.out j hj (by rw [hn2.out]; exact hjk)]; simpa using fieldCells_1 (ss1.zip ss2) j hz
    have hlines : Hid (ms.map Ent.line = ls) := by show ms.map Ent.line = ls; rw [← HMS.out]; exact ents_line hn1.out hn2.out hnl.out
    have hmw : Hid (∀ x ∈ ms, (Lit.int .i64 x.line).wf = true) := by
      intro x hx
      refine hlw.out x.line ?_
      rw [← hlines.out]; exact List.mem_map.2 ⟨x, hx, rfl⟩
    have hms : Hid (∀ x ∈ ms, x.name.size ≤ maxLen) := by
      intro z hz
      obtain ⟨j, hj, rfl⟩ := List.getElem_of_mem hz
      have h1 : j < ss1.length := by rw [hn1.out, ← hml.out]; exact hj
      rw [hnm.out j hj h1]
      exact hs1.out _ (List.getElem_mem h1)
    have hread' : Hid (∀ wy, Below w6.heap.size w6 wy → Calls Try.prog 93 #[.pointer (some ⟨p, 0, none⟩)] wy fun e w' => (∃ g, e = .returned (.tuple #[.int .i64 first, .slice (some ⟨g, 0, none⟩) n3 n3, .bool true]) ∧ RowAt w' g 3 (ms.map fun x => .int .i64 x.line).toArray ∧ wy.heap.size ≤ g) ∧ Below wy.heap.size wy w') := by
      intro wy hb
      have h := hread.out wy hb
      rw [← hlines.out] at h
      simpa [List.map_map, Function.comp_def] using h
    clear hread hat HMS hlines hlw
    have KF := hid (zzFieldLines_of p w6 (fun a b c w' => ∃ g, a = .int .i64 first ∧ b = .slice (some ⟨g, 0, none⟩) n3 n3 ∧ c = .bool true ∧ RowAt w' g 3 (ms.map fun x => .int .i64 x.line).toArray ∧ w6.heap.size ≤ g ∧ Below w6.heap.size w6 w')
      ((hread'.out w6 (Below.refl _ _)).mono fun e w' ⟨⟨g, he, hrow, hg⟩, hb⟩ => ⟨_, _, _, he, g, rfl, rfl, rfl, hrow, hg, hb⟩))
    have hfe : (first == first) = true := by simp
    have hne : ((n3 : Int) == (n3 : Int)) = true := by simp
    have hni : (n3 : Int) ≤ 4096 := by omega
    go_wp2_with fail
    refine Calls.mono KF.out ?_
    rintro e w7 ⟨x1', x2', x3', rfl, g, rfl, rfl, rfl, hrowg, hgw, hb7⟩
    obtain ⟨l6, hp6⟩ := hrl.out
    have hp7 := hp6.below hb7 hp6.lt
    have hf7 := hrow6.out.below hb7 hrow6.out.lt
    have hgp : Hid (g ≠ p) := by have := hp6.lt; show g ≠ p; omega
    have hgf : Hid (g ≠ f) := by have := hrow6.out.lt; show g ≠ f; omega
    have KD := hid (zzDeleteAll_of p name w7 _ (deleteAll_any p f n3 n3 r first l6 name ms _ w7 hp7 hf7 (by simp [fieldCells_length, List.length_zip, hn1.out, hn2.out]) (Nat.le_refl _) hml.out (by omega) hfil.out hpf.out hms.out hname.out (hread'.out w7 hb7)))
    have hcg7 := hid (hrowg.cells)
    have hW7 := hid (hW6.out.trans (hb7.mono hW6.out.size))
    have hg3 : Hid (w3.heap.size ≤ g) := by have := hW6.out.size; show w3.heap.size ≤ g; omega
    clear KF hp6 hp7 hf7 hrowg hgw hb7 hrow6 hfil hread' hrl hW6
    go_wp2_with fail
    refine Calls.mono KD.out ?_
    rintro e w8 ⟨rfl, h8a, ⟨A8, h8b, h8c, h8d⟩, hk8⟩
    obtain ⟨ks, HKS⟩ : ∃ ks, Hid (keepOf r name ms = ks) := ⟨_, hid rfl⟩
    have hle : Hid (ks.length ≤ n3) := by show ks.length ≤ n3; rw [← HKS.out, ← hml.out]; exact List.length_filter_le _ _
    have hS8 : Hid (StzAt w8 p f n3 r first ks) := by
      rw [HKS.out] at h8a h8d
      exact ⟨h8a, ⟨A8, h8b, h8c, h8d⟩, hle.out, by have := hle.out; omega, hpf.out, fun x hx => hms.out x (by rw [← HKS.out] at hx; exact (List.mem_filter.1 hx).1), fun x hx => hmw.out x (by rw [← HKS.out] at hx; exact (List.mem_filter.1 hx).1), hfw.out⟩
    have hW8 : Hid (Below w3.heap.size w3 w8) := hW7.out.trans (hk8.below hW7.out.size (fun k hk => by have := hpw.out; have := hg4.out; omega))
    have hcg8 : Hid (CellsAt w8 (some ⟨g, 0, none⟩) (ms.map fun x => .int .i64 x.line)) := by
      have h := hcg7.out.kept hk8 (by have := hgp.out; have := hgf.out; omega)
      exact hid (by simpa using h)
    obtain ⟨m, hm⟩ : ∃ m, Hid (ks.length = m) := ⟨_, hid rfl⟩
    have hmN : m ≤ n3 := by rw [← hm.out]; exact hle.out
    have hmi : (m : Int) ≤ (n3 : Int) := by omega
    have hmm : ((m : Int) == (m : Int)) = true := by simp
    have kept64 : Hid (∀ wy, StzAt wy p f n3 r first ks → Below w3.heap.size w3 wy → Calls Try.prog 64 #[.pointer (some ⟨p, 0, none⟩), .int .u8 r, .slice p1 n3 n3, .slice p2 n3 n3, .string name] wy fun e w' => e = .returned (.bool true) ∧ Below wy.heap.size wy w') := by
      intro wy hS hb
      obtain ⟨A, ha1, ha2, ha3⟩ := hS.fields
      have hrow := hS.row
      rw [hm.out] at hrow
      refine keptExactly_any p f n3 n3 m n3 n3 (.bool true) _ A p1 p2 r name ms ss1 ss2 wy hrow ha1 ?_ hmN hml.out ?_ (by omega) hnm.out hvl.out hn1.out hn2.out hs1.out hname.out (cells_upto hd1'.out hb) (cells_upto hd2'.out hb)
      · rw [HKS.out]; exact ha3
      · rw [HKS.out]; exact hm.out
    have kept65 : Hid (∀ wy g1, CellsAt wy (some ⟨g1, 0, none⟩) (ks.map fun x => .int .i64 x.line) → CellsAt wy (some ⟨g, 0, none⟩) (ms.map fun x => .int .i64 x.line) → Below w3.heap.size w3 wy → Calls Try.prog 65 #[.slice (some ⟨g1, 0, none⟩) m m, .slice (some ⟨g, 0, none⟩) n3 n3, .int .u8 r, .slice p1 n3 n3, .string name] wy fun e w' => e = .returned (.bool true) ∧ Below wy.heap.size wy w') := by
      intro wy g1 h1 h2 hb
      refine keptLines_any p1 g1 n3 m n3 m n3 (some ⟨g, 0, none⟩) r name ms ss1 wy hml.out ?_ (by omega) hnm.out hn1.out hs1.out hname.out (cells_upto hd1'.out hb) ?_ h2
      · rw [HKS.out]; exact hm.out
      · rw [HKS.out]; exact h1
    have read93 : Hid (∀ wy, StzAt wy p f n3 r first ks → Calls Try.prog 60 #[.pointer (some ⟨p, 0, none⟩)] wy fun e w' => ∃ a b c, e = .returned (.tuple #[a, b, c]) ∧ ∃ g1, a = .int .i64 first ∧ b = .slice (some ⟨g1, 0, none⟩) m m ∧ c = .bool true ∧ CellsAt w' (some ⟨g1, 0, none⟩) (ks.map fun x => .int .i64 x.line) ∧ Below wy.heap.size wy w') := by
      intro wy hS
      refine zzFieldLines_of p wy _ ((hS.lines93' hm.out).mono fun e w' ⟨⟨g1, he, hrow, _⟩, hb⟩ => ⟨_, _, _, he, g1, rfl, rfl, rfl, ?_, hb⟩)
      have h := hrow.cells
      simpa [List.map_map, Function.comp_def] using h
    have idem : Hid (keepOf r name ks = ks) := by show keepOf r name ks = ks; rw [← HKS.out]; exact keepOf_idem r name ms
    clear h8a h8b h8c h8d hk8 KD hcg7 hW7 hle hms hmw hfw
    go_wp2_with fail
    refine Calls.mono (kept64.out w8 hS8.out hW8.out) ?_
    rintro e w9 ⟨rfl, hb9⟩
    have hS9 := hid (hS8.out.later hb9)
    have hW9 := hid (hW8.out.trans (hb9.mono hW8.out.size))
    have hcg9 := hid (hcg8.out.below hb9)
    clear hS8 hW8 hcg8 hb9
    go_wp2_with fail
    refine Calls.mono (read93.out w9 hS9.out) ?_
    rintro e w10 ⟨y1, y2, y3, rfl, g1, rfl, rfl, rfl, hc10, hb10⟩
    have hS10 := hid (hS9.out.later hb10)
    have hW10 := hid (hW9.out.trans (hb10.mono hW9.out.size))
    have hcg10 := hid (hcg9.out.below hb10)
    replace hc10 := hid hc10
    clear hS9 hW9 hcg9 hb10
    go_wp2_with fail
    refine Calls.mono (kept65.out w10 g1 hc10.out hcg10.out hW10.out) ?_
    rintro e w11 ⟨rfl, hb11⟩
    have hS11 := hid (hS10.out.later hb11)
    have hW11 := hid (hW10.out.trans (hb11.mono hW10.out.size))
    have hcg11 := hid (hcg10.out.below hb11)
    clear hS10 hW10 hcg10 hb11 hc10
    go_wp2_with fail
    refine Calls.mono (hS11.out.delete name hname.out) ?_
    rintro e w12 ⟨rfl, hS12, hk12⟩
    rw [idem.out] at hS12
    have hW12 := hid (hW11.out.trans (hk12.below hW11.out.size (fun k hk => by have := hpw.out; have := hg4.out; omega)))
    have hcg12 := hid (hcg11.out.kept hk12 (by have := hgp.out; have := hgf.out; omega))
    replace hS12 := hid hS12
    clear hS11 hW11 hcg11 hk12
    go_wp2_with fail
    refine Calls.mono (kept64.out w12 hS12.out hW12.out) ?_
    rintro e w13 ⟨rfl, hb13⟩
    have hS13 := hid (hS12.out.later hb13)
    have hW13 := hid (hW12.out.trans (hb13.mono hW12.out.size))
    have hcg13 := hid (hcg12.out.below hb13)
    clear hS12 hW12 hcg12 hb13
    go_wp2_with fail
    refine Calls.mono (read93.out w13 hS13.out) ?_
    rintro e w14 ⟨y1, y2, y3, rfl, g2, rfl, rfl, rfl, hc14, hb14⟩
    have hW14 := hid (hW13.out.trans (hb14.mono hW13.out.size))
    have hcg14 := hid (hcg13.out.below hb14)
    replace hc14 := hid hc14
    clear hS13 hW13 hcg13 hb14
    go_wp2_with fail
    refine Calls.mono (kept65.out w14 g2 hc14.out hcg14.out hW14.out) ?_
    rintro e w15 ⟨rfl, hb15⟩
    have hW15 := hid (hW14.out.trans (hb15.mono hW14.out.size))
    clear hb15
    go_wp2_with fail
    go_ret
    exact ⟨rfl, hW3.out.trans (hW15.out.mono hW3.out.size)⟩
  | true =>
    clear hl3
    go_enter Try.func11, Try.ntmps11
    go_wp2_with (go_at_call 61; refine keepW K61.out ?_; rintro e ⟨b, rfl⟩; cases b)
    · go_ret
      exact ⟨rfl, Below.refl _ _⟩
    refine keepW K17a.out ?_
    rintro e rfl
    go_wp2_with fail
    refine keepW K17b.out ?_
    rintro e rfl
    go_wp2_with fail
    refine keepW K57.out ?_
    rintro e rfl
    go_wp2_with fail
    refine keepW K16.out ?_
    rintro e rfl
    go_wp2_with fail
    clear K61 K17a K17b K57 K16 hbig
    refine (cloneStrs_any a1 n1 c1 ss1 w hn1.out (by omega) ha1.out hc1.out).mono ?_
    rintro e w1 ⟨⟨p1, rfl, hp1, hd1⟩, hb1⟩
    replace hd1 := hid hd1
    replace hb1 := hid hb1
    clear hp1
    go_wp2_with fail
    refine (cloneStrs_any a2 n1 c2 ss2 w1 hn2.out (by omega) ha2.out (hc2.out.below hb1.out)).mono ?_
    rintro e w2 ⟨⟨p2, rfl, hp2, hd2⟩, hb2⟩
    replace hd2 := hid hd2
    replace hb2 := hid hb2
    clear hp2
    go_wp2_with fail
    refine (cloneInts_any a3 n3 c3 xs w2 hn3.out (by omega) ha3.out ((hc3.out.below hb1.out).below hb2.out)).mono ?_
    rintro e w3 ⟨⟨p3, rfl, hp3, hd3⟩, hb3⟩
    replace hd3 := hid hd3
    have hd1' : Hid (CellsAt w3 p1 (ss1.map .string)) := (hd1.out.below hb2.out).below hb3
    have hd2' : Hid (CellsAt w3 p2 (ss2.map .string)) := hd2.out.below hb3
    have hW3 : Hid (Below w.heap.size w w3) := hb1.out.trans ((hb2.out.mono hb1.out.size).trans (hb3.mono (Nat.le_trans hb1.out.size hb2.out.size)))
    clear hd1 hd2 hb1 hb2 hb3 hp3 hc1 hc2 hc3 ha1 ha2 ha3
    obtain ⟨x1, e1, hx1, HX1⟩ := as_u first
    have HEN : Hid (uv (n1 : Int) = Lib.uvarint n1) := by
      have en : u64 (n1 : Int) = n1 := by unfold u64; omega
      show uv (n1 : Int) = Lib.uvarint n1
      unfold uv; rw [en]
    go_wp2_with fail
    refine (putUv w3.heap.size none 0 0 x1 [] w3 hx1.out rfl (BufAt.nil w3 _ (Nat.le_refl _)) (by simp)).mono ?_
    rintro e w4 ⟨q4, cc4, m4, rfl, hm4, hbuf4, hb4⟩
    replace hm4 := hid hm4
    replace hbuf4 := hid hbuf4
    replace hb4 := hid hb4
    have hl1 := Lib.uvarint_length64 hx1.out
    have hl2 := Lib.uvarint_length64 (x := n1) (by omega)
    go_wp2_with fail
    refine (putUv w3.heap.size q4 cc4 m4 n1 _ w4 (by omega) hm4.out hbuf4.out (by simp; omega)).mono ?_
    rintro e w5 ⟨q5, cc5, m5, rfl, hm5, hbuf5, hb5⟩
    have hW5 : Hid (Below w3.heap.size w3 w5) := hb4.out.trans hb5
    replace hm5 := hid hm5
    replace hbuf5 := hid hbuf5
    clear hb4 hb5 hm4 hbuf4 e1
    have hcvt : Hid (∀ wy, Below w5.heap.size w5 wy → (convert 33 9 (.slice q5 m5 cc5)).run Try.prog wy = .ok (.string ⟨(encAll first n1 []).toArray⟩) wy) := by
      intro wy hb
      have h := (hbuf5.out.later hb).text hm5.out
      have e : ([] ++ Lib.uvarint x1) ++ Lib.uvarint n1 = encAll first n1 [] := by unfold encAll; rw [HX1.out, HEN.out]; simp [uvs]
      rw [e] at h
      exact h
    have hW5d := hid (hW5.out.drew)
    have hcv0 := hcvt.out w5.drew ((Below.refl _ _).drew)
    have hsz5 := hid hW5.out.size
    go_upto_region 16 with fail
    go_cut [15] (fun t wx => ∃ p f, t = .pointer (some ⟨p, 0, none⟩) ∧ RowAt wx p 65 (stanzaCells (.slice (some ⟨f, 0, none⟩) n1 n1) r ⟨(encAll first n1 []).toArray⟩) ∧ RowAt wx f 57 (fieldCells (ss1.zip ss2)).toArray ∧ p ≠ f ∧ w3.heap.size ≤ p ∧ w3.heap.size ≤ f ∧ Below w5.heap.size w5 wx)
    case first =>
      go_region_with (first
        | (go_at_call 41; refine (zzFields_any p1 p2 n1 n1 n1 ss1 ss2 _ hn1.out hn2.out (by omega) (cells_upto hd1'.out hW5d.out) (cells_upto hd2'.out hW5d.out)).mono ?_; rintro e wf ⟨⟨f, rfl, hrowf, hgf⟩, hbf⟩; have hcvf := hcvt.out wf (((Below.refl _ _).drew).trans hbf); replace hrowf := hid hrowf; replace hgf := hid hgf; replace hbf := hid hbf)
        | (go_at_call 40; refine (newStanza_any _ _ _ _ r _ rfl _).mono ?_; rintro e wg ⟨⟨p, rfl, hp, hpe⟩, hbg⟩; replace hp := hid hp; replace hpe := hid hpe; replace hbg := hid hbg))
      all_goals (go_wp2_with fail)
      all_goals (go_meet)
      all_goals exact ⟨_, _, rfl, hp.out, hrowf.out.below hbg.out hrowf.out.lt, (by have := hrowf.out.lt; have := hpe.out; omega), (by have h1 := hbf.out.size; have h2 := hsz5.out; have h3 := hpe.out; have h4 : w5.drew.heap.size = w5.heap.size := rfl; omega), (by have h2 := hsz5.out; have h3 : w5.heap.size ≤ _ := hgf.out; omega), (((Below.refl _ _).drew).trans hbf.out).trans (hbg.out.mono hbf.out.size)⟩
    case rest =>
    obtain ⟨w6, rfl⟩ : ∃ w6, w6 = wc := ⟨_, rfl⟩
    obtain ⟨p, f, rfl, hp6, hrow6, hpf, hpw, hg4, hb6⟩ := hcut
    have hW6 : Hid (Below w3.heap.size w3 w6) := hW5.out.trans (hb6.mono hW5.out.size)
    obtain ⟨ls, HLS⟩ : ∃ ls, Hid (straight first ss2 n1 = ls) := ⟨_, hid rfl⟩
    have hnl : Hid (ls.length = n1) := by show ls.length = n1; rw [← HLS.out]; exact straight_length _ _ _
    have hlw : Hid (∀ x ∈ ls, (Lit.int .i64 x).wf = true) := by show ∀ x ∈ ls, _; rw [← HLS.out]; exact straight_wf first ss2 hfw.out n1
    have hvs2 : ∀ v ∈ ss2, v.size ≤ 1048576 := by intro v hv; have := total_ge hv; omega
    have hread : Hid (∀ wy, Below w6.heap.size w6 wy → Calls Try.prog 93 #[.pointer (some ⟨p, 0, none⟩)] wy fun e w' => (∃ g, e = .returned (.tuple #[.int .i64 first, .slice (some ⟨g, 0, none⟩) n1 n1, .bool true]) ∧ RowAt w' g 3 (ls.map (.int .i64)).toArray ∧ wy.heap.size ≤ g) ∧ Below wy.heap.size wy w') := by
      intro wy hb
      rw [← HLS.out]
      refine fieldLines_straight p f n1 n1 r first ss2 _ wy hn2.out (by omega) hfw.out (hrow6.below hb hrow6.lt) ?_ hvs2 (Nat.le_refl _) (hp6.below hb hp6.lt)
      intro j hj
      have hz : j < (ss1.zip ss2).length := by rw [List.length_zip, hn1.out]; rw [hn2.out] at hj ⊢; omega
      refine ⟨(ss1.zip ss2)[j].1, by simpa using fieldCells_0 (ss1.zip ss2) j hz, ?_⟩
      simpa using fieldCells_1 (ss1.zip ss2) j hz
    have hrl : Hid (∃ l, RowAt w6 p 65 (stanzaCells (.slice (some ⟨f, 0, none⟩) n1 n1) r l)) := ⟨_, hp6⟩
    replace hrow6 := hid hrow6
    replace hpf := hid hpf
    replace hpw := hid hpw
    replace hg4 := hid hg4
    clear hp6 hb6 hvs2 HLS hd3 hx3 hcvt hbuf5 hm5 hW5 hsz5 HX1 HEN hx1
    obtain ⟨ms, HMS⟩ : ∃ ms, Hid (ents ss1 ss2 ls = ms) := ⟨_, hid rfl⟩
    have hml : Hid (ms.length = n1) := by show ms.length = n1; rw [← HMS.out]; exact ents_length hn1.out hn2.out hnl.out
    have hat : Hid (∀ j (hj : j < ms.length) (h1 : j < ss1.length) (h2 : j < ss2.length) (h3 : j < ls.length), ms[j] = ⟨ss1[j], ss2[j], ls[j]⟩) := by
      intro j hj h1 h2 h3
      have e := HMS.out
      subst e
      exact ents_at j hj h1 h2 h3
    have hnm : Hid (∀ j (hj : j < ms.length) (h1 : j < ss1.length), ms[j].name = ss1[j]) := by
      intro j hj h1
      have hjk : j < n1 := by rw [← hml.out]; exact hj
      rw [hat.out j hj h1 (by rw [hn2.out]; exact hjk) (by rw [hnl.out]; exact hjk)]
    have hvl : Hid (∀ j (hj : j < ms.length) (h2 : j < ss2.length), ms[j].value = ss2[j]) := by
      intro j hj h2
      have hjk : j < n1 := by rw [← hml.out]; exact hj
      rw [hat.out j hj (by rw [hn1.out]; exact hjk) h2 (by rw [hnl.out]; exact hjk)]
    have hfil : Hid (∀ j (h : j < ms.length), HasF (fieldCells (ss1.zip ss2)).toArray ms[j] j) := by
      intro j hj
      have hjk : j < n1 := by rw [← hml.out]; exact hj
      have hz : j < (ss1.zip ss2).length := by rw [List.length_zip, hn1.out, hn2.out]; omega
      refine ⟨?_, ?_⟩
      · rw [hnm.out j hj (by rw [hn1.out]; exact hjk)]; simpa using fieldCells_0 (ss1.zip ss2) j hz
      · rw [hvl.out j hj (by rw [hn2.out]; exact hjk)]; simpa using fieldCells_1 (ss1.zip ss2) j hz
    have hlines : Hid (ms.map Ent.line = ls) := by show ms.map Ent.line = ls; rw [← HMS.out]; exact ents_line hn1.out hn2.out hnl.out
    have hmw : Hid (∀ x ∈ ms, (Lit.int .i64 x.line).wf = true) := by
      intro x hx
      refine hlw.out x.line ?_
      rw [← hlines.out]; exact List.mem_map.2 ⟨x, hx, rfl⟩
    have hms : Hid (∀ x ∈ ms, x.name.size ≤ maxLen) := by
      intro z hz
      obtain ⟨j, hj, rfl⟩ := List.getElem_of_mem hz
      have h1 : j < ss1.length := by rw [hn1.out, ← hml.out]; exact hj
      rw [hnm.out j hj h1]
      exact hs1.out _ (List.getElem_mem h1)
    have hread' : Hid (∀ wy, Below w6.heap.size w6 wy → Calls Try.prog 93 #[.pointer (some ⟨p, 0, none⟩)] wy fun e w' => (∃ g, e = .returned (.tuple #[.int .i64 first, .slice (some ⟨g, 0, none⟩) n1 n1, .bool true]) ∧ RowAt w' g 3 (ms.map fun x => .int .i64 x.line).toArray ∧ wy.heap.size ≤ g) ∧ Below wy.heap.size wy w') := by
      intro wy hb
      have h := hread.out wy hb
      rw [← hlines.out] at h
      simpa [List.map_map, Function.comp_def] using h
    clear hread hat HMS hlines hlw
    have KF := hid (zzFieldLines_of p w6 (fun a b c w' => ∃ g, a = .int .i64 first ∧ b = .slice (some ⟨g, 0, none⟩) n1 n1 ∧ c = .bool true ∧ RowAt w' g 3 (ms.map fun x => .int .i64 x.line).toArray ∧ w6.heap.size ≤ g ∧ Below w6.heap.size w6 w')
      ((hread'.out w6 (Below.refl _ _)).mono fun e w' ⟨⟨g, he, hrow, hg⟩, hb⟩ => ⟨_, _, _, he, g, rfl, rfl, rfl, hrow, hg, hb⟩))
    have hfe : (first == first) = true := by simp
    have hne : ((n1 : Int) == (n1 : Int)) = true := by simp
    have hni : (n1 : Int) ≤ 4096 := by omega
    go_wp2_with fail
    refine Calls.mono KF.out ?_
    rintro e w7 ⟨x1', x2', x3', rfl, g, rfl, rfl, rfl, hrowg, hgw, hb7⟩
    obtain ⟨l6, hp6⟩ := hrl.out
    have hp7 := hp6.below hb7 hp6.lt
    have hf7 := hrow6.out.below hb7 hrow6.out.lt
    have hgp : Hid (g ≠ p) := by have := hp6.lt; show g ≠ p; omega
    have hgf : Hid (g ≠ f) := by have := hrow6.out.lt; show g ≠ f; omega
    have KD := hid (zzDeleteAll_of p name w7 _ (deleteAll_any p f n1 n1 r first l6 name ms _ w7 hp7 hf7 (by simp [fieldCells_length, List.length_zip, hn1.out, hn2.out]) (Nat.le_refl _) hml.out (by omega) hfil.out hpf.out hms.out hname.out (hread'.out w7 hb7)))
    have hcg7 := hid (hrowg.cells)
    have hW7 := hid (hW6.out.trans (hb7.mono hW6.out.size))
    have hg3 : Hid (w3.heap.size ≤ g) := by have := hW6.out.size; show w3.heap.size ≤ g; omega
    clear KF hp6 hp7 hf7 hrowg hgw hb7 hrow6 hfil hread' hrl hW6
    go_wp2_with fail
    refine Calls.mono KD.out ?_
    rintro e w8 ⟨rfl, h8a, ⟨A8, h8b, h8c, h8d⟩, hk8⟩
    obtain ⟨ks, HKS⟩ : ∃ ks, Hid (keepOf r name ms = ks) := ⟨_, hid rfl⟩
    have hle : Hid (ks.length ≤ n1) := by show ks.length ≤ n1; rw [← HKS.out, ← hml.out]; exact List.length_filter_le _ _
    have hS8 : Hid (StzAt w8 p f n1 r first ks) := by
      rw [HKS.out] at h8a h8d
      exact ⟨h8a, ⟨A8, h8b, h8c, h8d⟩, hle.out, by have := hle.out; omega, hpf.out, fun x hx => hms.out x (by rw [← HKS.out] at hx; exact (List.mem_filter.1 hx).1), fun x hx => hmw.out x (by rw [← HKS.out] at hx; exact (List.mem_filter.1 hx).1), hfw.out⟩
    have hW8 : Hid (Below w3.heap.size w3 w8) := hW7.out.trans (hk8.below hW7.out.size (fun k hk => by have := hpw.out; have := hg4.out; omega))
    have hcg8 : Hid (CellsAt w8 (some ⟨g, 0, none⟩) (ms.map fun x => .int .i64 x.line)) := by
      have h := hcg7.out.kept hk8 (by have := hgp.out; have := hgf.out; omega)
      exact hid (by simpa using h)
    obtain ⟨m, hm⟩ : ∃ m, Hid (ks.length = m) := ⟨_, hid rfl⟩
    have hmN : m ≤ n1 := by rw [← hm.out]; exact hle.out
    have hmi : (m : Int) ≤ (n1 : Int) := by omega
    have hmm : ((m : Int) == (m : Int)) = true := by simp
    have kept64 : Hid (∀ wy, StzAt wy p f n1 r first ks → Below w3.heap.size w3 wy → Calls Try.prog 64 #[.pointer (some ⟨p, 0, none⟩), .int .u8 r, .slice p1 n1 n1, .slice p2 n1 n1, .string name] wy fun e w' => e = .returned (.bool true) ∧ Below wy.heap.size wy w') := by
      intro wy hS hb
      obtain ⟨A, ha1, ha2, ha3⟩ := hS.fields
      have hrow := hS.row
      rw [hm.out] at hrow
      refine keptExactly_any p f n1 n1 m n1 n1 (.bool true) _ A p1 p2 r name ms ss1 ss2 wy hrow ha1 ?_ hmN hml.out ?_ (by omega) hnm.out hvl.out hn1.out hn2.out hs1.out hname.out (cells_upto hd1'.out hb) (cells_upto hd2'.out hb)
      · rw [HKS.out]; exact ha3
      · rw [HKS.out]; exact hm.out
    have kept65 : Hid (∀ wy g1, CellsAt wy (some ⟨g1, 0, none⟩) (ks.map fun x => .int .i64 x.line) → CellsAt wy (some ⟨g, 0, none⟩) (ms.map fun x => .int .i64 x.line) → Below w3.heap.size w3 wy → Calls Try.prog 65 #[.slice (some ⟨g1, 0, none⟩) m m, .slice (some ⟨g, 0, none⟩) n1 n1, .int .u8 r, .slice p1 n1 n1, .string name] wy fun e w' => e = .returned (.bool true) ∧ Below wy.heap.size wy w') := by
      intro wy g1 h1 h2 hb
      refine keptLines_any p1 g1 n1 m n1 m n1 (some ⟨g, 0, none⟩) r name ms ss1 wy hml.out ?_ (by omega) hnm.out hn1.out hs1.out hname.out (cells_upto hd1'.out hb) ?_ h2
      · rw [HKS.out]; exact hm.out
      · rw [HKS.out]; exact h1
    have read93 : Hid (∀ wy, StzAt wy p f n1 r first ks → Calls Try.prog 60 #[.pointer (some ⟨p, 0, none⟩)] wy fun e w' => ∃ a b c, e = .returned (.tuple #[a, b, c]) ∧ ∃ g1, a = .int .i64 first ∧ b = .slice (some ⟨g1, 0, none⟩) m m ∧ c = .bool true ∧ CellsAt w' (some ⟨g1, 0, none⟩) (ks.map fun x => .int .i64 x.line) ∧ Below wy.heap.size wy w') := by
      intro wy hS
      refine zzFieldLines_of p wy _ ((hS.lines93' hm.out).mono fun e w' ⟨⟨g1, he, hrow, _⟩, hb⟩ => ⟨_, _, _, he, g1, rfl, rfl, rfl, ?_, hb⟩)
      have h := hrow.cells
      simpa [List.map_map, Function.comp_def] using h
    have idem : Hid (keepOf r name ks = ks) := by show keepOf r name ks = ks; rw [← HKS.out]; exact keepOf_idem r name ms
    clear h8a h8b h8c h8d hk8 KD hcg7 hW7 hle hms hmw hfw
    go_wp2_with fail
    refine Calls.mono (kept64.out w8 hS8.out hW8.out) ?_
    rintro e w9 ⟨rfl, hb9⟩
    have hS9 := hid (hS8.out.later hb9)
    have hW9 := hid (hW8.out.trans (hb9.mono hW8.out.size))
    have hcg9 := hid (hcg8.out.below hb9)
    clear hS8 hW8 hcg8 hb9
    go_wp2_with fail
    refine Calls.mono (read93.out w9 hS9.out) ?_
    rintro e w10 ⟨y1, y2, y3, rfl, g1, rfl, rfl, rfl, hc10, hb10⟩
    have hS10 := hid (hS9.out.later hb10)
    have hW10 := hid (hW9.out.trans (hb10.mono hW9.out.size))
    have hcg10 := hid (hcg9.out.below hb10)
    replace hc10 := hid hc10
    clear hS9 hW9 hcg9 hb10
    go_wp2_with fail
    refine Calls.mono (kept65.out w10 g1 hc10.out hcg10.out hW10.out) ?_
    rintro e w11 ⟨rfl, hb11⟩
    have hS11 := hid (hS10.out.later hb11)
    have hW11 := hid (hW10.out.trans (hb11.mono hW10.out.size))
    have hcg11 := hid (hcg10.out.below hb11)
    clear hS10 hW10 hcg10 hb11 hc10
    go_wp2_with fail
    refine Calls.mono (hS11.out.delete name hname.out) ?_
    rintro e w12 ⟨rfl, hS12, hk12⟩
    rw [idem.out] at hS12
    have hW12 := hid (hW11.out.trans (hk12.below hW11.out.size (fun k hk => by have := hpw.out; have := hg4.out; omega)))
    have hcg12 := hid (hcg11.out.kept hk12 (by have := hgp.out; have := hgf.out; omega))
    replace hS12 := hid hS12
    clear hS11 hW11 hcg11 hk12
    go_wp2_with fail
    refine Calls.mono (kept64.out w12 hS12.out hW12.out) ?_
    rintro e w13 ⟨rfl, hb13⟩
    have hS13 := hid (hS12.out.later hb13)
    have hW13 := hid (hW12.out.trans (hb13.mono hW12.out.size))
    have hcg13 := hid (hcg12.out.below hb13)
    clear hS12 hW12 hcg12 hb13
    go_wp2_with fail
    refine Calls.mono (read93.out w13 hS13.out) ?_
    rintro e w14 ⟨y1, y2, y3, rfl, g2, rfl, rfl, rfl, hc14, hb14⟩
    have hW14 := hid (hW13.out.trans (hb14.mono hW13.out.size))
    have hcg14 := hid (hcg13.out.below hb14)
    replace hc14 := hid hc14
    clear hS13 hW13 hcg13 hb14
    go_wp2_with fail
    refine Calls.mono (kept65.out w14 g2 hc14.out hcg14.out hW14.out) ?_
    rintro e w15 ⟨rfl, hb15⟩
    have hW15 := hid (hW14.out.trans (hb15.mono hW14.out.size))
    clear hb15
    go_wp2_with fail
    go_ret
    exact ⟨rfl, hW3.out.trans (hW15.out.mono hW3.out.size)⟩

end Go.Proofs.Qxb6001690a
