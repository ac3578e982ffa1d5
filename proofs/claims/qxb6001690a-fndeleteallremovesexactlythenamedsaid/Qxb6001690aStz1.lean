import Derived.Test.Qxb6001690aText
import Derived.Test.Qxb6001690aUv
import Derived.Lib.ConvBytes
namespace Go.Proofs.Qxb6001690a
open Go.RowKit
set_option linter.unusedVariables false
set_option linter.unusedSimpArgs false

theorem keepW {P : Program} {f : FuncId} {args : Array Value} {w : World} {A : Ending → Prop} {R : Ending → World → Prop} (h : Calls P f args w fun e w' => A e ∧ w' = w) (k : ∀ e, A e → R e w) : Calls P f args w R :=
  h.mono fun e w' ⟨ha, hw⟩ => by subst hw; exact k e ha

/-- The int as a uint64. -/
def u64 (n : Int) : Nat := (n % 18446744073709551616).toNat
theorem u64_lt (n : Int) : u64 n < 18446744073709551616 := by unfold u64; omega
theorem u64_lt' (n : Int) : u64 n < 2 ^ 64 := u64_lt n
def uv (n : Int) : List UInt8 := Lib.uvarint (u64 n)
def uvs (xs : List Int) : List UInt8 := xs.flatMap uv
def encAll (first : Int) (m : Nat) (xs : List Int) : List UInt8 := uv first ++ (uv m ++ uvs xs)

/-- A stanza in memory. -/
def stanzaCells (F : Value) (r : Int) (l : ByteArray) : Array Value := #[F, .int .u8 0, .int .u8 r, .string l]

set_option maxHeartbeats 400000 in
theorem setLines_no (p : Nat) (F : Value) (r : Int) (l : ByteArray) (first : Int) (ls : Value) (w : World) (hp : RowAt w p 65 (stanzaCells F r l)) :
    Calls Try.prog 92 #[.pointer (some ⟨p, 0, none⟩), .int .i64 first, ls, .bool false] w fun e w' => e = .returned (.tuple #[]) ∧ w' = w.setCell ⟨p, 3, none⟩ (.string ⟨#[]⟩) := by
  have hc : w.cell? ⟨p, 3, none⟩ = some (.string l) := hp.cell 3
  have hf := hp.frozen 3
  clear hp
  go_enter Try.func92, Try.ntmps92
  go_wp2
  exact bodyPost_ret (results_none rfl _ _ _) rfl ⟨rfl, rfl⟩

/-- What stays: all blocks but those of S. -/
structure Kept (S : Nat → Prop) (w w' : World) : Prop where
  os : w'.os = w.os
  tape : w'.tape = w.tape
  output : w'.output = w.output
  size : w.heap.size ≤ w'.heap.size
  block : ∀ k, k < w.heap.size → ¬ S k → w'.heap[k]? = w.heap[k]?
theorem Kept.of_below {S : Nat → Prop} {w w' : World} (h : Below w.heap.size w w') : Kept S w w' := ⟨h.os, h.tape, h.output, h.size, fun k hk _ => h.block k hk⟩
theorem Kept.trans {S : Nat → Prop} {a b c : World} (h : Kept S a b) (k : Kept S b c) : Kept S a c :=
  ⟨k.os.trans h.os, k.tape.trans h.tape, k.output.trans h.output, Nat.le_trans h.size k.size, fun i hi hs => (k.block i (Nat.lt_of_lt_of_le hi h.size) hs).trans (h.block i hi hs)⟩
theorem Kept.mono {S T : Nat → Prop} {a b : World} (h : Kept S a b) (hst : ∀ k, S k → T k) : Kept T a b := ⟨h.os, h.tape, h.output, h.size, fun i hi hs => h.block i hi fun hh => hs (hst i hh)⟩
theorem Kept.set {S : Nat → Prop} (w : World) (g j : Nat) (v : Value) (hs : S g) : Kept S w (w.setCell ⟨g, j, none⟩ v) :=
  ⟨rfl, rfl, rfl, by simp, fun k _ hk => heap_setCell_other w ⟨g, j, none⟩ k v (fun e => hk (by simp only at e; rw [e]; exact hs))⟩
theorem Kept.below {S : Nat → Prop} {w w' : World} (h : Kept S w w') {B : Nat} (hB : B ≤ w.heap.size) (hs : ∀ k, k < B → ¬ S k) : Below B w w' :=
  ⟨h.os, h.tape, h.output, h.size, fun k hk => h.block k (by omega) (hs k hk)⟩
theorem RowAt.kept {S : Nat → Prop} {w w' : World} {g : Nat} {e : TypeId} {arr : Array Value} (h : RowAt w g e arr) (hk : Kept S w w') (hg : ¬ S g) : RowAt w' g e arr := (hk.block g h.lt hg).trans h

theorem wrap_u (n : Int) : IntKind.u64.wrap n = ((u64 n : Nat) : Int) := by
  rw [IntKind.wrap_u64]; unfold u64; omega

theorem as_u (n : Int) : ∃ x : Nat, IntKind.u64.wrap n = (x : Int) ∧ Hid (x < 18446744073709551616) ∧ Hid (uv n = Lib.uvarint x) := ⟨u64 n, wrap_u n, u64_lt n, rfl⟩

/-- binary.AppendUvarint on a buffer of our own. -/
theorem appendUv (B : Nat) (p : Option Addr) (c m x : Nat) (l : List UInt8) (w : World) (hx : x < 18446744073709551616) (hm : m = l.length) (hb : BufAt w B p c l) (hlim : l.length ≤ 1099511627776) :
    Calls Try.prog 112 #[.slice p m c, .int .u64 (x : Int)] w fun e w' => ∃ p' c' m', e = .returned (.slice p' m' c') ∧ m' = (l ++ Lib.uvarint x).length ∧ BufAt w' B p' c' (l ++ Lib.uvarint x) ∧ Below B w w' := by
  subst hm
  refine (Try.binary_AppendUvarint B l.length x hx _ (Lib.byteCells l) w hb.1 hb.2 (by omega)).mono ?_
  rintro e w' ⟨v', rfl, h1, h2⟩
  obtain ⟨a, c', rfl⟩ := slice_of_owns h1
  refine ⟨a, c', _, rfl, by simp, ⟨?_, ?_⟩, h2⟩
  · rw [Lib.byteCells_append]
    simpa using h1
  · have := h2.size
    have := hb.2
    omega

theorem uvs_length (xs : List Int) : (uvs xs).length ≤ 10 * xs.length := by
  induction xs with
  | nil => simp [uvs]
  | cons x xs ih =>
    have h1 : (uv x).length ≤ 10 := Lib.uvarint_length64 (u64_lt x)
    simp only [uvs, List.flatMap_cons, List.length_append, List.length_cons] at ih ⊢
    omega
theorem uvs_take (xs : List Int) (k : Nat) (h : k < xs.length) : uvs (xs.take (k + 1)) = uvs (xs.take k) ++ uv xs[k] := by
  unfold uvs
  rw [List.take_succ_eq_append_getElem h, List.flatMap_append]
  simp
theorem encAll_length (first : Int) (m : Nat) (xs : List Int) : (encAll first m xs).length ≤ 20 + 10 * xs.length := by
  have h1 := Lib.uvarint_length64 (u64_lt first)
  have h2 := Lib.uvarint_length64 (u64_lt m)
  have h3 := uvs_length xs
  unfold encAll uv
  simp only [List.length_append]
  omega

set_option maxRecDepth 100000 in
set_option maxHeartbeats 400000 in
theorem setLines_yes (p : Nat) (F : Value) (r : Int) (l : ByteArray) (first : Int) (a : Option Addr) (n c : Nat) (xs : List Int) (w : World) (hp : RowAt w p 65 (stanzaCells F r l))
    (hn : xs.length = n) (hm : n ≤ 1048576) (hc : CellsAt w a (xs.map (.int .i64))) :
    Calls Try.prog 92 #[.pointer (some ⟨p, 0, none⟩), .int .i64 first, .slice a n c, .bool true] w fun e w' => e = .returned (.tuple #[]) ∧ RowAt w' p 65 (stanzaCells F r ⟨(encAll first n xs).toArray⟩) ∧ Kept (· = p) w w' := by
  have HN : Hid (xs.length = n) := hn
  have HC : Hid (CellsAt w a (xs.map (.int .i64))) := hc
  have HP : Hid (RowAt w p 65 (stanzaCells F r l)) := hp
  clear hn hc hp
  obtain ⟨x1, e1, hx1, HX1⟩ := as_u first
  have HEN : Hid (uv (n : Int) = Lib.uvarint n) := by
    have en : u64 (n : Int) = n := by unfold u64; omega
    show uv (n : Int) = Lib.uvarint n
    unfold uv; rw [en]
  have hx2 : Hid (n < 18446744073709551616) := by show n < 18446744073709551616; omega
  have hl1 : Hid ((Lib.uvarint x1).length ≤ 10) := Lib.uvarint_length64 hx1.out
  have hl2 : Hid ((Lib.uvarint n).length ≤ 10) := Lib.uvarint_length64 hx2.out
  have hq1 : Hid (([] ++ Lib.uvarint x1 : List UInt8).length ≤ 1099511627776) := by
    have := hl1.out
    show ([] ++ Lib.uvarint x1 : List UInt8).length ≤ 1099511627776
    simp only [List.nil_append]; omega
  go_enter Try.func92, Try.ntmps92
  go_wp2_with fail
  refine (appendUv w.heap.size none 0 0 x1 [] _ hx1.out rfl (BufAt.nil _ _ (Nat.le_refl _)) (Nat.zero_le _)).mono ?_
  rintro e w1 ⟨p1, c1, m1, rfl, hm1, hb1, hB1⟩
  replace hm1 := hid hm1
  replace hb1 := hid hb1
  replace hB1 := hid hB1
  go_wp2_with fail
  refine (appendUv w.heap.size p1 c1 m1 n ([] ++ Lib.uvarint x1) _ hx2.out hm1.out hb1.out hq1.out).mono ?_
  rintro e w2 ⟨p2, c2, m2, rfl, hm2, hb2, hB2⟩
  replace hm2 := hid hm2
  replace hb2 := hid hb2
  replace hB2 := hid (hB1.out.trans hB2)
  clear hm1 hb1 hB1
  obtain ⟨hd, HD⟩ : ∃ hd, Hid ([] ++ Lib.uvarint x1 ++ Lib.uvarint n = hd) := ⟨_, hid rfl⟩
  rw [HD.out] at hm2 hb2
  have hdl : Hid (hd.length ≤ 20) := by
    have h1 := hl1.out
    have h2 := hl2.out
    show hd.length ≤ 20
    rw [← HD.out]
    simp only [List.nil_append, List.length_append]
    omega
  go_wp2_with fail
  go_loopw [8, 26] (fun v i wr => ∃ (k : Nat) (q : Option Addr) (d m : Nat), k ≤ n ∧ i = .int .i64 k ∧ v = .slice q m d ∧ m = (hd ++ uvs (xs.take k)).length ∧ BufAt wr w.heap.size q d (hd ++ uvs (xs.take k)) ∧ Below w.heap.size w wr) (fun _ i _ => n - (intOf i).toNat)
  case atStart => exact ⟨0, p2, c2, m2, Nat.zero_le _, rfl, rfl, by simpa [uvs] using hm2.out, by simpa [uvs] using hb2.out, hB2.out⟩
  case round =>
    obtain ⟨k, q, d, m, hk, rfl, rfl, hmk, hbk, hBk⟩ := hrel
    by_cases hlt : k < n
    · have hkl : k < xs.length := by rw [HN.out]; exact hlt
      obtain ⟨b, off, rfl, hcell⟩ := HC.out k (by simpa using hkl)
      have hcell' := (hBk.cell (World.block_lt_of_cell? w _ hcell)).trans hcell
      simp only [List.getElem_map] at hcell'
      clear hcell
      replace hmk := hid hmk
      replace hbk := hid hbk
      replace hBk := hid hBk
      obtain ⟨x, ex, hx, HX⟩ := as_u xs[k]
      have hq : Hid ((hd ++ uvs (xs.take k)).length ≤ 1099511627776) := by
        have h1 := uvs_length (xs.take k)
        have h2 : (xs.take k).length ≤ k := List.length_take_le _ _
        have h3 := hdl.out
        show (hd ++ uvs (xs.take k)).length ≤ 1099511627776
        rw [List.length_append]
        omega
      have hnext : Hid (hd ++ uvs (xs.take (k + 1)) = hd ++ uvs (xs.take k) ++ Lib.uvarint x) := by
        show hd ++ uvs (xs.take (k + 1)) = hd ++ uvs (xs.take k) ++ Lib.uvarint x
        rw [uvs_take xs k hkl, HX.out, List.append_assoc]
      go_wp2_with (go_at_call 112; refine (appendUv w.heap.size q d m x _ _ hx.out hmk.out hbk.out hq.out).mono ?_; rintro e w3 ⟨q', d', m', rfl, hm3, hb3, hB3⟩; replace hm3 := hid hm3; replace hb3 := hid hb3; replace hB3 := hid hB3)
      go_roundw
      case rel => exact ⟨k + 1, q', d', m', by omega, by go_num, rfl, by rw [hnext.out]; exact hm3.out, by rw [hnext.out]; exact hb3.out, hBk.out.trans hB3.out⟩
      case measure => simp [intOf]; omega
    · have hkn : xs.take k = xs := List.take_of_length_le (by have := HN.out; omega)
      rw [hkn] at hmk hbk
      have hcv : (convert 33 9 (.slice q m d)).run Try.prog wr = .ok (.string ⟨(hd ++ uvs xs).toArray⟩) wr := hbk.text hmk
      have hall : Hid (encAll first n xs = hd ++ uvs xs) := by
        show encAll first n xs = hd ++ uvs xs
        unfold encAll
        rw [← HD.out, HX1.out, HEN.out]
        simp
      obtain ⟨T, hT⟩ : ∃ T, (⟨(hd ++ uvs xs).toArray⟩ : ByteArray) = T := ⟨_, rfl⟩
      rw [hT] at hcv
      have HT : Hid _ := hT
      have HPr := HP.out.below hBk HP.out.lt
      have hc3 : wr.cell? ⟨p, 3, none⟩ = some (.string l) := HPr.cell 3
      have hf3 := HPr.frozen 3
      replace HPr := hid HPr
      replace hBk := hid hBk
      clear hmk hbk hkn hT
      go_wp2
      go_end0
      refine ⟨rfl, ?_, ?_⟩
      · rw [hall.out, HT.out]
        exact HPr.out.set 3 _
      · exact (Kept.of_below hBk.out).trans (Kept.set _ _ _ _ rfl)

end Go.Proofs.Qxb6001690a
