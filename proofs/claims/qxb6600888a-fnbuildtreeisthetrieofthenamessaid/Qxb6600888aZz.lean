import Derived.Test.Qxb6600888aBld
import Derived.BigRegion
import Derived.StillTailTactics
namespace Go.Proofs.Qxb6600888a
open Go.RowKit
set_option linter.unusedVariables false
set_option linter.unusedSimpArgs false

/-- What ZZBuildTree hands back. -/
structure Res (N : List Str) (C A : List Nat) (w w' : World) (go gH cH m : Nat) (ss : List St) (dd : List Dy) (nv : List Nv) : Prop where
  inv : Inv N C A m ss dd
  sl : ss.length = m
  len : nv.length = m
  at_ : ∀ (k : Nat) s d, ss[k]? = some s → dd[k]? = some d → nv[k]? = some (nvOf s d (orA A (lo' N s) s.hi))
  nodes : RowAt w' go 40 (nv.flatMap ndc).toArray
  heads : ∀ (k : Nat) s, ss[k]? = some s → w'.cell? ⟨gH, k, none⟩ = some (.int .u64 (hd s.lab))
  below : Below w.heap.size w w'

theorem made_flat {z : List Value} {q : Nat} (hz : z.length = q) (hq : 0 < q) (n : Nat) : (madeCells z.toArray (n * q)).toList = (List.replicate n z).flatten := by
  apply List.ext_getElem?
  intro j
  by_cases hj : j < n * q
  · have h1 : (madeCells z.toArray (n * q)).toList[j]? = some (z.toArray[j % z.toArray.size]!) := by
      unfold madeCells
      rw [Array.getElem?_toList, Array.getElem?_map, Array.getElem?_range]
      simp; omega
    rw [h1]
    have hjq : j / q < n := Nat.div_lt_of_lt_mul (by rw [Nat.mul_comm]; exact hj)
    have h2 := flat_get (c := fun _ : Nat => z) (q := q) (fun _ => hz) (List.range n) (j / q) (j % q) (j / q) (by simp [hjq]) (Nat.mod_lt _ hq)
    rw [Nat.mul_comm, Nat.div_add_mod] at h2
    have h3 : (List.range n).flatMap (fun _ : Nat => z) = (List.replicate n z).flatten := by
      rw [List.flatMap_def, List.map_const', List.length_range]
    rw [h3] at h2
    rw [h2]
    have hm : j % q < z.length := by rw [hz]; exact Nat.mod_lt _ hq
    rw [List.size_toArray, hz, getElem!_pos z.toArray (j % q) (by simpa using hm), List.getElem?_eq_getElem hm]
    simp
  · rw [List.getElem?_eq_none (by rw [Array.length_toList, size_madeCells]; omega), List.getElem?_eq_none]
    rw [List.length_flatten, List.map_replicate, List.sum_replicate_nat, hz]; omega


def z5 : List Value := [.string ByteArray.empty, .int .i64 0, .int .u32 0, .pointer none, .int .u32 0]
def tcells (g n : Nat) : Array Value := #[.slice (some ⟨g, 0, none⟩) n n, .int .i64 0, .slice none 0 0, .slice none 0 0, .pointer none, .int .i32 0, .int .i32 0]
def lcells (N : List Str) (C A : List Nat) (n i : Nat) : List Value := (List.range i).flatMap (dfc N C A) ++ (List.replicate (n - i) z5).flatten
theorem dfc_len (N : List Str) (C A : List Nat) (j : Nat) : (dfc N C A j).length = 5 := rfl
theorem lcells_split {N : List Str} {C A : List Nat} {n i : Nat} (h : i < n) : lcells N C A n i = (List.range i).flatMap (dfc N C A) ++ (z5 ++ (List.replicate (n - (i + 1)) z5).flatten) := by
  unfold lcells
  rw [show n - i = (n - (i + 1)) + 1 by omega, List.replicate_succ, List.flatten_cons]
theorem lcells_next {N : List Str} {C A : List Nat} {n i : Nat} (h : i < n) : lcells N C A n (i + 1) = (List.range i).flatMap (dfc N C A) ++ (dfc N C A i ++ (List.replicate (n - (i + 1)) z5).flatten) := by
  unfold lcells
  rw [List.range_succ, List.flatMap_append]; simp
theorem lcells_get {N : List Str} {C A : List Nat} {n i f : Nat} (h : i < n) (hf : f < 5) : (lcells N C A n i)[i * 5 + f]? = z5[f]? := by
  rw [lcells_split h, List.getElem?_append_right (by rw [flat_len (dfc_len N C A), List.length_range]; omega), flat_len (dfc_len N C A), List.length_range, show i * 5 + f - i * 5 = f by omega, List.getElem?_append_left (by show f < 5; exact hf)]
theorem set5 (X Y : List Value) (p : Nat) (hp : X.length = p) (o0 o1 o2 o3 o4 v0 v1 v2 v3 v4 : Value) :
    (((((X ++ ([o0, o1, o2, o3, o4] ++ Y)).set p v0).set (p + 1) v1).set (p + 2) v2).set (p + 3) v3).set (p + 4) v4 = X ++ ([v0, v1, v2, v3, v4] ++ Y) := by
  subst hp
  simp [List.set_append_right]
theorem RowAt.setL {w : World} {g e : Nat} {l : List Value} (h : RowAt w g e l.toArray) (j : Nat) (u : Value) : RowAt (w.setCell ⟨g, j, none⟩ u) g e (l.set j u).toArray := by
  have := h.set j u
  rwa [List.setIfInBounds_toArray] at this
theorem below_set {B : Nat} {w w' : World} (h : Below B w w') {g j : Nat} (hg : B ≤ g) (u : Value) : Below B w (w'.setCell ⟨g, j, none⟩ u) := h.setCell hg u

structure Z1 (N : List Str) (C A : List Nat) (w : World) (n i : Nat) (wr : World) : Prop where
  t : RowAt wr (w.heap.size + 1) 49 (tcells w.heap.size n)
  l : RowAt wr w.heap.size 53 (lcells N C A n i).toArray
  below : Below w.heap.size w wr
theorem Z1.start {N : List Str} {C A : List Nat} {w : World} {n : Nat} : Z1 N C A w n 0 ((w.alloc (.cells (madeCells z5.toArray (n * 5)) 53)).alloc (.cells (tcells w.heap.size n) 49)) := by
  refine ⟨?_, ?_, ((Below.refl _ _).alloc (Nat.le_refl _) _).alloc (by simp) _⟩
  · have := RowAt.new (w.alloc (.cells (madeCells z5.toArray (n * 5)) 53)) 49 (tcells w.heap.size n)
    simpa using this
  · have h1 := RowAt.new w 53 (madeCells z5.toArray (n * 5))
    have e : (madeCells z5.toArray (n * 5)) = (lcells N C A n 0).toArray := by
      apply Array.ext'
      rw [made_flat (q := 5) rfl (by omega)]
      simp [lcells]
    rw [← e]
    exact (Below.heap_alloc _ _ _ (by simp)).trans h1
theorem Z1.step {N : List Str} {C A : List Nat} {w : World} {n i : Nat} {wr : World} (h : Z1 N C A w n i wr) (hi : i < n) :
    Z1 N C A w n (i + 1) (((((wr.setCell ⟨w.heap.size, i * 5, none⟩ (.string (bs (nm N i)))).setCell ⟨w.heap.size, i * 5 + 1, none⟩ (.int .i64 0)).setCell ⟨w.heap.size, i * 5 + 2, none⟩ (.int .u32 (C.getD i 0 : Nat))).setCell ⟨w.heap.size, i * 5 + 3, none⟩ (.pointer none)).setCell ⟨w.heap.size, i * 5 + 4, none⟩ (.int .u32 (A.getD i 0 : Nat))) := by
  have hne : w.heap.size + 1 ≠ w.heap.size := by omega
  refine ⟨((((h.t.setOther hne _ _).setOther hne _ _).setOther hne _ _).setOther hne _ _).setOther hne _ _, ?_, ((((h.below.setCell (Nat.le_refl _) _).setCell (Nat.le_refl _) _).setCell (Nat.le_refl _) _).setCell (Nat.le_refl _) _).setCell (Nat.le_refl _) _⟩
  have := ((((h.l.setL (i * 5) (.string (bs (nm N i)))).setL (i * 5 + 1) (.int .i64 0)).setL (i * 5 + 2) (.int .u32 (C.getD i 0 : Nat))).setL (i * 5 + 3) (.pointer none)).setL (i * 5 + 4) (.int .u32 (A.getD i 0 : Nat))
  rw [lcells_split hi] at this
  have e := set5 ((List.range i).flatMap (dfc N C A)) ((List.replicate (n - (i + 1)) z5).flatten) (i * 5) (by rw [flat_len (dfc_len N C A), List.length_range]) (.string ByteArray.empty) (.int .i64 0) (.int .u32 0) (.pointer none) (.int .u32 0) (.string (bs (nm N i))) (.int .i64 0) (.int .u32 (C.getD i 0 : Nat)) (.pointer none) (.int .u32 (A.getD i 0 : Nat))
  have e2 : lcells N C A n (i + 1) = _ := lcells_next hi
  rw [e2]
  exact (congrArg (fun z => RowAt _ w.heap.size 53 z.toArray) e).mp this
theorem Z1.drew {N : List Str} {C A : List Nat} {w : World} {n i : Nat} {wr : World} (h : Z1 N C A w n i wr) (k : Nat) : Z1 N C A w n i (wr.drewN k) := ⟨h.t, h.l, below_drewN h.below _⟩
theorem u32_get {w : World} {g : Nat} {C : List Nat} (h : RowAt w g 38 (C.map fun c : Nat => Value.int .u32 c).toArray) {k : Nat} (hk : k < C.length) : w.cell? ⟨g, k, none⟩ = some (.int .u32 ((C.getD k 0 : Nat) : Int)) := by
  rw [h.cell, List.getElem?_toArray, List.getElem?_map, List.getD_eq_getElem?_getD, List.getElem?_eq_getElem hk]; rfl

/-- Behind buildTree. -/
structure Z2 (N : List Str) (C A : List Nat) (w : World) (B gt gN cN gH cH m : Nat) (ss : List St) (dd : List Dy) (nv : List Nv) (wx : World) : Prop where
  inv : Inv N C A m ss dd
  sl : ss.length = m
  len : nv.length = m
  at_ : ∀ (k : Nat) s d, ss[k]? = some s → dd[k]? = some d → nv[k]? = some (nvOf s d (orA A (lo' N s) s.hi))
  nd : wx.ownsRow B 56 8 (.slice (some ⟨gN, 0, none⟩) m cN) m (nv.flatMap ndc)
  hd : wx.ownsRow B 41 1 (.slice (some ⟨gH, 0, none⟩) m cH) m (ss.flatMap hdc)
  t2 : wx.cell? ⟨gt, 2, none⟩ = some (.slice (some ⟨gN, 0, none⟩) m cN)
  t3 : wx.cell? ⟨gt, 3, none⟩ = some (.slice (some ⟨gH, 0, none⟩) m cH)
  lt : gt < wx.heap.size
  below : Below w.heap.size w wx
section
variable {N : List Str} {C A : List Nat} {w : World} {B gt gN cN gH cH m : Nat} {ss : List St} {dd : List Dy} {nv : List Nv} {wx wy : World}
theorem Z2.below' (h : Z2 N C A w B gt gN cN gH cH m ss dd nv wx) (hb : Below wx.heap.size wx wy) : Z2 N C A w B gt gN cN gH cH m ss dd nv wy :=
  ⟨h.inv, h.sl, h.len, h.at_, own_below h.nd hb, own_below h.hd hb, (hb.cell h.lt).trans h.t2, (hb.cell h.lt).trans h.t3, Nat.lt_of_lt_of_le h.lt hb.size, h.below.trans (hb.mono h.below.size)⟩
theorem Z2.other (h : Z2 N C A w B gt gN cN gH cH m ss dd nv wx) {go : Nat} {arr : Array Value} (hr : RowAt wx go 40 arr) (hne : gt ≠ go) (hB : w.heap.size ≤ go) (j : Nat) (u : Value) : Z2 N C A w B gt gN cN gH cH m ss dd nv (wx.setCell ⟨go, j, none⟩ u) := by
  have hk : Kept (· = go) wx (wx.setCell ⟨go, j, none⟩ u) := Kept.set wx go j u rfl
  have n1 : gN ≠ go := by
    rintro rfl
    obtain ⟨_, cur, h1, _⟩ := own_at h.nd
    rw [hr] at h1; cases h1
  have n2 : gH ≠ go := by
    rintro rfl
    obtain ⟨_, cur, h1, _⟩ := own_at h.hd
    rw [hr] at h1; cases h1
  exact ⟨h.inv, h.sl, h.len, h.at_, own_kept h.nd hk n1, own_kept h.hd hk n2, (World.cell?_of_block (w := wx) (hk.block gt h.lt hne)).trans h.t2, (World.cell?_of_block (w := wx) (hk.block gt h.lt hne)).trans h.t3, by simpa using h.lt, h.below.setCell hB u⟩
theorem Z2.cell (h : Z2 N C A w B gt gN cN gH cH m ss dd nv wx) {k f : Nat} {v : Nv} (hv : nv[k]? = some v) (hf : f < 8) : wx.cell? ⟨gN, k * 8 + f, none⟩ = (ndc v)[f]? := by
  have hk : k < m := by rw [← h.len]; exact (List.getElem?_eq_some_iff.1 hv).1
  rw [h.nd.cellAt (k * 8 + f) (by omega), flat_get ndc_len nv k f v hv hf]
end
theorem Z2.of {N : List Str} {C A : List Nat} {w wr : World} {gt gN cN gH cH m : Nat} {ss : List St} {dd : List Dy} {nv : List Nv} {wx : World} {arr : Array Value} (hS : S4 N C A wr gN cN gH cH m ss dd 0 nv wx) (hb : Below w.heap.size w wr) (hT : RowAt wr gt 49 arr) (h7 : 4 ≤ arr.size) (hgt : w.heap.size ≤ gt) :
    Z2 N C A w wr.heap.size gt gN cN gH cH m ss dd nv ((wx.setCell ⟨gt, 2, none⟩ (.slice (some ⟨gN, 0, none⟩) m cN)).setCell ⟨gt, 3, none⟩ (.slice (some ⟨gH, 0, none⟩) m cH)) := by
  have k1 : Kept (· = gt) wx ((wx.setCell ⟨gt, 2, none⟩ (.slice (some ⟨gN, 0, none⟩) m cN)).setCell ⟨gt, 3, none⟩ (.slice (some ⟨gH, 0, none⟩) m cH)) := Kept.trans (S := (· = gt)) (Kept.set (S := (· = gt)) wx gt 2 _ rfl) (Kept.set (S := (· = gt)) _ gt 3 _ rfl)
  have n1 : gN ≠ gt := by have := (own_at hS.nd).1; have := hT.lt; omega
  have n2 : gH ≠ gt := by have := (own_at hS.hd).1; have := hT.lt; omega
  have hT2 := hT.below hS.below hT.lt
  have r1 := (hT2.set 2 (.slice (some ⟨gN, 0, none⟩) m cN)).set 3 (.slice (some ⟨gH, 0, none⟩) m cH)
  refine ⟨hS.inv, hS.sl, hS.len, ?_, own_kept hS.nd k1 n1, own_kept hS.hd k1 n2, ?_, ?_, r1.lt, ?_⟩
  · intro k s d hs hd
    rw [hS.at_ k s d hs hd, if_pos (Nat.zero_le _)]
  · rw [r1.cell, Array.getElem?_setIfInBounds_ne (by omega), Array.getElem?_setIfInBounds, if_pos rfl, if_pos (by omega)]
  · rw [r1.cell, Array.getElem?_setIfInBounds, if_pos rfl, if_pos (by simp; omega)]
  · exact ((hb.trans (hS.below.mono hb.size)).setCell hgt _).setCell hgt _

def nv0 : Nv := ⟨[], 0, 0, false, 0, 0, 0, 0⟩
def outL (nv : List Nv) (m i : Nat) : List Value := (nv.take i ++ List.replicate (m - i) nv0).flatMap ndc
theorem outL_split {nv : List Nv} {m i : Nat} (h : i < m) : outL nv m i = (nv.take i).flatMap ndc ++ (ndc nv0 ++ (List.replicate (m - (i + 1)) nv0).flatMap ndc) := by
  unfold outL
  rw [show m - i = (m - (i + 1)) + 1 by omega, List.replicate_succ, List.flatMap_append, List.flatMap_cons]
theorem outL_next {nv : List Nv} {m i : Nat} {v : Nv} (hv : nv[i]? = some v) : outL nv m (i + 1) = (nv.take i).flatMap ndc ++ (ndc v ++ (List.replicate (m - (i + 1)) nv0).flatMap ndc) := by
  unfold outL
  rw [List.take_add_one, hv]; simp
theorem outL_get {nv : List Nv} {m i f : Nat} (hl : nv.length = m) (h : i < m) (hf : f < 8) : (outL nv m i)[i * 8 + f]? = (ndc nv0)[f]? := by
  have e : ((nv.take i).flatMap ndc).length = i * 8 := by rw [flat_len ndc_len, List.length_take]; congr 1; omega
  rw [outL_split h, List.getElem?_append_right (by rw [e]; omega), e, show i * 8 + f - i * 8 = f by omega, List.getElem?_append_left (by show f < 8; exact hf)]
theorem set8 (X Y : List Value) (p : Nat) (hp : X.length = p) (o0 o1 o2 o3 o4 o5 o6 o7 v0 v1 v2 v3 v4 v5 v6 v7 : Value) :
    ((((((((X ++ ([o0, o1, o2, o3, o4, o5, o6, o7] ++ Y)).set p v0).set (p + 1) v1).set (p + 2) v2).set (p + 3) v3).set (p + 4) v4).set (p + 5) v5).set (p + 6) v6).set (p + 7) v7 = X ++ ([v0, v1, v2, v3, v4, v5, v6, v7] ++ Y) := by
  subst hp
  simp [List.set_append_right]

structure Z3 (N : List Str) (C A : List Nat) (w : World) (B gt gN cN gH cH m go : Nat) (ss : List St) (dd : List Dy) (nv : List Nv) (i : Nat) (wx : World) : Prop where
  z : Z2 N C A w B gt gN cN gH cH m ss dd nv wx
  o : RowAt wx go 40 (outL nv m i).toArray
  ne : gt ≠ go
  big : w.heap.size ≤ go
section
variable {N : List Str} {C A : List Nat} {w : World} {B gt gN cN gH cH m go i : Nat} {ss : List St} {dd : List Dy} {nv : List Nv} {wx wy : World}
theorem Z2.start (h : Z2 N C A w B gt gN cN gH cH m ss dd nv wx) : Z3 N C A w B gt gN cN gH cH m wx.heap.size ss dd nv 0 (wx.alloc (.cells (madeCells (ndc nv0).toArray (m * 8)) 40)) := by
  refine ⟨h.below' ((Below.refl _ _).alloc (Nat.le_refl _) _), ?_, fun e => by have := h.lt; omega, h.below.size⟩
  have h1 := RowAt.new wx 40 (madeCells (ndc nv0).toArray (m * 8))
  have e : (madeCells (ndc nv0).toArray (m * 8)) = (outL nv m 0).toArray := by
    apply Array.ext'
    rw [made_flat (q := 8) rfl (by omega)]
    simp [outL, List.flatMap_def]
  rw [← e]; exact h1
theorem Z3.drew (h : Z3 N C A w B gt gN cN gH cH m go ss dd nv i wx) (k : Nat) : Z3 N C A w B gt gN cN gH cH m go ss dd nv i (wx.drewN k) := by
  have hb : Below wx.heap.size wx (wx.drewN k) := below_drewN (Below.refl _ _) _
  exact ⟨h.z.below' hb, h.o.below hb h.o.lt, h.ne, h.big⟩
theorem Z3.set (h : Z3 N C A w B gt gN cN gH cH m go ss dd nv i wx) (L : List Value) (hz : Z2 N C A w B gt gN cN gH cH m ss dd nv wx ∧ RowAt wx go 40 L.toArray) (j : Nat) (u : Value) : Z2 N C A w B gt gN cN gH cH m ss dd nv (wx.setCell ⟨go, j, none⟩ u) ∧ RowAt (wx.setCell ⟨go, j, none⟩ u) go 40 (L.set j u).toArray :=
  ⟨hz.1.other hz.2 h.ne h.big j u, hz.2.setL j u⟩
theorem z3set {L : List Value} (hne : gt ≠ go) (hB : w.heap.size ≤ go) (hz : Z2 N C A w B gt gN cN gH cH m ss dd nv wx ∧ RowAt wx go 40 L.toArray) (j : Nat) (u : Value) : Z2 N C A w B gt gN cN gH cH m ss dd nv (wx.setCell ⟨go, j, none⟩ u) ∧ RowAt (wx.setCell ⟨go, j, none⟩ u) go 40 (L.set j u).toArray :=
  ⟨hz.1.other hz.2 hne hB j u, hz.2.setL j u⟩
theorem Z3.step (h : Z3 N C A w B gt gN cN gH cH m go ss dd nv i wx) (hi : i < m) {v : Nv} (hv : nv[i]? = some v) :
    Z3 N C A w B gt gN cN gH cH m go ss dd nv (i + 1) ((((((((wx.setCell ⟨go, i * 8, none⟩ (.string (bs v.lab))).setCell ⟨go, i * 8 + 1, none⟩ (.int .i32 v.first)).setCell ⟨go, i * 8 + 2, none⟩ (.int .i32 v.count)).setCell ⟨go, i * 8 + 3, none⟩ (.bool v.dfn)).setCell ⟨go, i * 8 + 4, none⟩ (.int .u32 v.cat)).setCell ⟨go, i * 8 + 5, none⟩ (.int .u32 v.own)).setCell ⟨go, i * 8 + 6, none⟩ (.int .u32 v.all)).setCell ⟨go, i * 8 + 7, none⟩ (.int .u32 v.bel)) := by
  have q := z3set h.ne h.big (z3set h.ne h.big (z3set h.ne h.big (z3set h.ne h.big (z3set h.ne h.big (z3set h.ne h.big (z3set h.ne h.big (z3set h.ne h.big ⟨h.z, h.o⟩ (i * 8) (.string (bs v.lab))) (i * 8 + 1) (.int .i32 v.first)) (i * 8 + 2) (.int .i32 v.count)) (i * 8 + 3) (.bool v.dfn)) (i * 8 + 4) (.int .u32 v.cat)) (i * 8 + 5) (.int .u32 v.own)) (i * 8 + 6) (.int .u32 v.all)) (i * 8 + 7) (.int .u32 v.bel)
  refine ⟨q.1, ?_, h.ne, h.big⟩
  have e0 : ((nv.take i).flatMap ndc).length = i * 8 := by rw [flat_len ndc_len, List.length_take]; congr 1; have := h.z.len; omega
  have e := set8 ((nv.take i).flatMap ndc) ((List.replicate (m - (i + 1)) nv0).flatMap ndc) (i * 8) e0 (.string (bs [])) (.int .i32 (0 : Nat)) (.int .i32 (0 : Nat)) (.bool false) (.int .u32 (0 : Nat)) (.int .u32 (0 : Nat)) (.int .u32 (0 : Nat)) (.int .u32 (0 : Nat)) (.string (bs v.lab)) (.int .i32 v.first) (.int .i32 v.count) (.bool v.dfn) (.int .u32 v.cat) (.int .u32 v.own) (.int .u32 v.all) (.int .u32 v.bel)
  have q2 := q.2
  rw [outL_split hi] at q2
  rw [outL_next hv]
  exact (congrArg (fun z => RowAt _ go 40 z.toArray) e).mp q2
theorem Z3.res (h : Z3 N C A w B gt gN cN gH cH m go ss dd nv m wx) : Res N C A w wx go gH cH m ss dd nv := by
  refine ⟨h.z.inv, h.z.sl, h.z.len, h.z.at_, ?_, ?_, h.z.below⟩
  · have := h.o
    unfold outL at this
    rw [List.take_of_length_le (by rw [h.z.len]; exact Nat.le_refl _), Nat.sub_self] at this
    simpa using this
  · intro k s hs
    have hk : k < m := by rw [← h.z.sl]; exact (List.getElem?_eq_some_iff.1 hs).1
    have := h.z.hd.cellAt k (by omega)
    rw [this]
    have := flat_get hdc_len ss k 0 s hs (by omega)
    rw [show k * 1 + 0 = k by omega] at this
    rw [this]; rfl
end

set_option maxHeartbeats 8000000 in
set_option maxRecDepth 1000000 in
theorem zzBuild_w (an : Option Addr) (cn gC gA n : Nat) (xs : List ByteArray) (C A : List Nat) (w : World) (hN : Names (xs.map lst)) (hn : xs.length = n) (hn4 : n ≤ 4096) (hsz : ∀ s ∈ xs, s.size ≤ 1048576) (hA : ∀ j, A.getD j 0 < 4294967296)
    (hnames : CellsAt w an (xs.map Value.string)) (hC : RowAt w gC 38 (C.map fun c : Nat => Value.int .u32 c).toArray) (hA' : RowAt w gA 38 (A.map fun c : Nat => Value.int .u32 c).toArray) (hCl : C.length = n) (hAl : A.length = n) :
    Calls Try.prog 11 #[.slice an n cn, .slice (some ⟨gC, 0, none⟩) n n, .slice (some ⟨gA, 0, none⟩) n n, .int .i64 0] w fun e w' => ∃ (go gH cH m : Nat) (ss : List St) (dd : List Dy) (nv : List Nv), e = .returned (.tuple #[.slice (some ⟨go, 0, none⟩) m m, .slice (some ⟨gH, 0, none⟩) m cH]) ∧ Res (xs.map lst) C A w w' go gH cH m ss dd nv := by
  obtain ⟨i53, hi53, hz530, hz531, hz532⟩ := info_parts Try.info53
  have mk53 : ∀ w : World, (Instr.makeSlice 43 (.int .i64 (n : Int)) (.int .i64 (n : Int))).run Try.prog w = .ok (.slice (some ⟨w.heap.size, 0, none⟩) n n) (w.alloc (.cells (madeCells (Value.agg #[.string ByteArray.empty, .int .i64 0, .int .u32 0, .pointer none, .int .u32 0]).cells (n * 5)) 53)) := by
    intro w
    have := run_make (P := Try.prog) w 43 53 i53 _ Try.underlying43 hi53 hz530 .i64 .i64 (n : Int) (n : Int) (by omega) (by omega) (by rw [hz532]; omega) (by omega)
    rw [hz531] at this
    simpa using this
  clear hi53 hz530 hz531 hz532
  go_enter Try.func11, Try.ntmps11
  go_wp2_with fail
  have HN : Hid (Names (xs.map lst)) := hN
  have HX : Hid (∀ k (hk : k < xs.length), nm (xs.map lst) k = lst xs[k]) := by
    intro k hk; unfold nm; rw [List.getD_eq_getElem?_getD, List.getElem?_map, List.getElem?_eq_getElem hk]; rfl
  have Hnames : Hid (CellsAt w an (xs.map Value.string)) := hnames
  have HC : Hid (RowAt w gC 38 (C.map fun c : Nat => Value.int .u32 c).toArray) := hC
  have HA' : Hid (RowAt w gA 38 (A.map fun c : Nat => Value.int .u32 c).toArray) := hA'
  have HL : Hid (xs.length = n ∧ C.length = n ∧ A.length = n) := ⟨hn, hCl, hAl⟩
  have HSZ : Hid (∀ s ∈ xs, s.size ≤ 1048576) := hsz
  have HAb : Hid (∀ j, A.getD j 0 < 4294967296) := hA
  clear hN hnames hC hA' hn hCl hAl hsz hA
  go_loopw [11, 22] (fun _ i wr => ∃ k : Nat, k ≤ n ∧ i = .int .i64 k ∧ Z1 (xs.map lst) C A w n k wr) (fun _ i _ => n - (intOf i).toNat)
  case atStart => exact ⟨0, Nat.zero_le _, rfl, Z1.start⟩
  case round =>
    obtain ⟨k, hk, rfl, hZ⟩ := hrel
    by_cases hlt : k < n
    · have hkl : k < xs.length := by rw [HL.out.1]; exact hlt
      obtain ⟨b, off, ha, hcell⟩ := Hnames.out k (by simpa using hkl)
      subst ha
      have hcell' := (hZ.below.cell (World.block_lt_of_cell? w _ hcell)).trans hcell
      simp only [List.getElem_map] at hcell'
      rw [← bs_lst xs[k], ← HX.out k hkl] at hcell'
      have hc1 := u32_get (HC.out.below hZ.below HC.out.lt) (k := k) (by rw [HL.out.2.1]; exact hlt)
      have ha1 := u32_get (HA'.out.below hZ.below HA'.out.lt) (k := k) (by rw [HL.out.2.2]; exact hlt)
      have ht0 : wr.cell? ⟨w.heap.size + 1, 0, none⟩ = some (.slice (some ⟨w.heap.size, 0, none⟩) n n) := hZ.t.cell 0
      have hl : ∀ f, f < 5 → wr.cell? ⟨w.heap.size, k * 5 + f, none⟩ = z5[f]? := fun f hf => by rw [hZ.l.cell, List.getElem?_toArray]; exact lcells_get hlt hf
      have hl0 : wr.cell? ⟨w.heap.size, k * 5, none⟩ = some (.string ByteArray.empty) := hl 0 (by omega)
      have hl1 : wr.cell? ⟨w.heap.size, k * 5 + 1, none⟩ = some (.int .i64 0) := hl 1 (by omega)
      have hl2 : wr.cell? ⟨w.heap.size, k * 5 + 2, none⟩ = some (.int .u32 0) := hl 2 (by omega)
      have hl3 : wr.cell? ⟨w.heap.size, k * 5 + 3, none⟩ = some (.pointer none) := hl 3 (by omega)
      have hl4 : wr.cell? ⟨w.heap.size, k * 5 + 4, none⟩ = some (.int .u32 0) := hl 4 (by omega)
      have hfz : ∀ j, wr.frozen? ⟨w.heap.size, j, none⟩ = false := hZ.l.frozen
      have hki : (k : Int) < (n : Int) := by omega
      have hk0 : (0 : Int) ≤ (k : Int) := by omega
      have hw4 : IntKind.i64.wrap ((k : Int) + 1) = (k : Int) + 1 := wrap_small _ (by omega) (by omega)
      have HZ2 := hZ.step hlt
      replace HZ2 := hid HZ2
      clear hl hcell hZ
      generalize C.getD k 0 = ck at *
      generalize A.getD k 0 = ak at *
      generalize bs (nm (xs.map lst) k) = sk at *
      generalize hB : w.heap.size = B at *
      go_upto_region 5 with fail
      go_region
      go_wp2_with fail
      go_roundw
      case rel => exact ⟨k + 1, by omega, by go_num, HZ2.out.drew 1⟩
      case measure => simp [intOf]; omega
    · obtain rfl : k = n := by omega
      have hlr : RowAt wr w.heap.size 53 ((List.range k).flatMap (dfc (xs.map lst) C A)).toArray := by
        have := hZ.l
        unfold lcells at this
        rw [Nat.sub_self] at this
        simpa using this
      have hlen : ∀ j, (nm (xs.map lst) j).length ≤ 1048576 := by
        intro j
        by_cases hj : j < xs.length
        · rw [HX.out j hj, lst_len]; exact HSZ.out _ (List.getElem_mem hj)
        · unfold nm; rw [List.getD_eq_getElem?_getD, List.getElem?_eq_none (by rw [List.length_map]; omega)]; simp
      have K17 := build_w (w.heap.size + 1) w.heap.size k (xs.map lst) C A HN.out (by rw [List.length_map]; exact HL.out.1) hn4 hlen HAb.out wr _ _ _ _ _ hZ.t hlr
      replace K17 := hid K17
      have HZ : Hid (Z1 (xs.map lst) C A w k k wr) := hZ
      clear hZ hlr hlen
      go_upto_region 8 with (go_at_call 17; refine (K17.out).mono ?_; rintro e wq ⟨rfl, gN, cN, gH, cH, m, ss, dd, nv, wx, hS4, hwq⟩)
      subst hwq
      refine at_world (fun wx => Z2 (xs.map lst) C A w wr.heap.size (w.heap.size + 1) gN cN gH cH m ss dd nv wx) (Z2.of hS4 HZ.out.below HZ.out.t (by show 4 ≤ 7; omega) (by omega)) ?_
      intro wy HY
      have hmb : m ≤ 8193 := by
        have h1 := HY.inv.small; have h2 := HY.sl
        rw [List.length_map, HL.out.1] at h1; omega
      have hm4 : m ≤ 1048576 := by omega
      obtain ⟨i40, hi40, hz400, hz401, hz402⟩ := info_parts Try.info40
      have mk40 : ∀ w : World, (Instr.makeSlice 30 (.int .i64 (m : Int)) (.int .i64 (m : Int))).run Try.prog w = .ok (.slice (some ⟨w.heap.size, 0, none⟩) m m) (w.alloc (.cells (madeCells (ndc nv0).toArray (m * 8)) 40)) := by
        intro w
        have := run_make (P := Try.prog) w 30 40 i40 _ Try.underlying30 hi40 hz400 .i64 .i64 (m : Int) (m : Int) (by omega) (by omega) (by rw [hz402]; omega) (by omega)
        rw [hz401] at this
        exact this
      clear hi40 hz400 hz401 hz402 hS4 K17 HZ mk53
      have hg2 := HY.t2
      have hg2a : ∀ o, (wy.alloc o).cell? ⟨w.heap.size + 1, 2, none⟩ = some (.slice (some ⟨gN, 0, none⟩) m cN) := fun o => (HY.below' ((Below.refl _ _).alloc (Nat.le_refl _) o)).t2
      have HY0 : Hid (Z3 (xs.map lst) C A w wr.heap.size (w.heap.size + 1) gN cN gH cH m wy.heap.size ss dd nv 0 (wy.alloc (.cells (madeCells (ndc nv0).toArray (m * 8)) 40))) := HY.start
      replace HY := hid HY
      go_wp2_with fail
      refine at_world (fun wx => Z3 (xs.map lst) C A w wr.heap.size (w.heap.size + 1) gN cN gH cH m wy.heap.size ss dd nv 0 wx) HY0.out ?_
      intro wv HV
      replace HV := hid HV
      clear hg2 hg2a HY0
      generalize hgo : wy.heap.size = go at *
      clear hgo HY
      generalize hgt : w.heap.size + 1 = gt at *
      generalize wr.heap.size = B at *
      go_loopw [13, 14, 51] (fun _ _ i wx => ∃ k : Nat, k ≤ m ∧ i = .int .i64 k ∧ Z3 (xs.map lst) C A w B gt gN cN gH cH m go ss dd nv k wx) (fun _ _ i _ => m - (intOf i).toNat)
      case atStart => exact ⟨0, Nat.zero_le _, rfl, HV.out⟩
      case round =>
        obtain ⟨k, hk, rfl, hZ⟩ := hrel
        by_cases hlt : k < m
        · obtain ⟨v, hv⟩ : ∃ v, nv[k]? = some v := ⟨nv[k]'(by rw [hZ.z.len]; exact hlt), List.getElem?_eq_getElem _⟩
          have hg2 := hZ.z.t2
          have r0 : wr.cell? ⟨gN, k * 8, none⟩ = some (.string (bs v.lab)) := hZ.z.cell (f := 0) hv (by omega)
          have r1 : wr.cell? ⟨gN, k * 8 + 1, none⟩ = some (.int .i32 v.first) := hZ.z.cell (f := 1) hv (by omega)
          have r2 : wr.cell? ⟨gN, k * 8 + 2, none⟩ = some (.int .i32 v.count) := hZ.z.cell (f := 2) hv (by omega)
          have r3 : wr.cell? ⟨gN, k * 8 + 3, none⟩ = some (.bool v.dfn) := hZ.z.cell (f := 3) hv (by omega)
          have r4 : wr.cell? ⟨gN, k * 8 + 4, none⟩ = some (.int .u32 v.cat) := hZ.z.cell (f := 4) hv (by omega)
          have r5 : wr.cell? ⟨gN, k * 8 + 5, none⟩ = some (.int .u32 v.own) := hZ.z.cell (f := 5) hv (by omega)
          have r6 : wr.cell? ⟨gN, k * 8 + 6, none⟩ = some (.int .u32 v.all) := hZ.z.cell (f := 6) hv (by omega)
          have r7 : wr.cell? ⟨gN, k * 8 + 7, none⟩ = some (.int .u32 v.bel) := hZ.z.cell (f := 7) hv (by omega)
          have ho : ∀ f, f < 8 → wr.cell? ⟨go, k * 8 + f, none⟩ = (ndc nv0)[f]? := fun f hf => by rw [hZ.o.cell, List.getElem?_toArray]; exact outL_get hZ.z.len hlt hf
          have o0 : wr.cell? ⟨go, k * 8, none⟩ = some (.string (bs [])) := ho 0 (by omega)
          have o1 : wr.cell? ⟨go, k * 8 + 1, none⟩ = some (.int .i32 (0 : Nat)) := ho 1 (by omega)
          have o2 : wr.cell? ⟨go, k * 8 + 2, none⟩ = some (.int .i32 (0 : Nat)) := ho 2 (by omega)
          have o3 : wr.cell? ⟨go, k * 8 + 3, none⟩ = some (.bool false) := ho 3 (by omega)
          have o4 : wr.cell? ⟨go, k * 8 + 4, none⟩ = some (.int .u32 (0 : Nat)) := ho 4 (by omega)
          have o5 : wr.cell? ⟨go, k * 8 + 5, none⟩ = some (.int .u32 (0 : Nat)) := ho 5 (by omega)
          have o6 : wr.cell? ⟨go, k * 8 + 6, none⟩ = some (.int .u32 (0 : Nat)) := ho 6 (by omega)
          have o7 : wr.cell? ⟨go, k * 8 + 7, none⟩ = some (.int .u32 (0 : Nat)) := ho 7 (by omega)
          have hfz : ∀ j, wr.frozen? ⟨go, j, none⟩ = false := hZ.o.frozen
          have hki : (k : Int) < (m : Int) := by omega
          have hk0 : (0 : Int) ≤ (k : Int) := by omega
          have hw4 : IntKind.i64.wrap ((k : Int) + 1) = (k : Int) + 1 := wrap_small _ (by omega) (by omega)
          have HZ2 := hZ.step hlt hv
          replace HZ2 := hid HZ2
          clear ho hv hZ mk40
          go_upto_region 13 with fail
          refine wp_region_still_tail 36 (by kernel_rfl) (by kernel_rfl) ?_
          simp only [List.take_succ_cons, List.take_zero, List.drop_succ_cons, List.drop_zero]
          change wpStill _ _ (World.drew _) _ _ _
          repeat still_step
          refine wpStill_nil ?_
          change wpList _ _ _ _ _ (World.drew _)
          go_wp2_with fail
          go_roundw
          case rel => exact ⟨k + 1, by omega, by go_num, HZ2.out.drew 1⟩
          case measure => simp [intOf]; omega
        · obtain rfl : k = m := by omega
          have hg3 := hZ.z.t3
          have HR : Hid (Res (xs.map lst) C A w (wr.drewN 1) go gH cH k ss dd nv) := (hZ.drew 1).res
          have HR2 : Hid (∀ q, Res (xs.map lst) C A w (wr.drewN q) go gH cH k ss dd nv) := fun q => (hZ.drew q).res
          clear hZ
          go_wp2_with fail
          go_quiet (fail)
          go_wp2_with fail
          go_ret2
          exact ⟨go, gH, cH, k, ss, dd, nv, rfl, HR2.out _⟩
end Go.Proofs.Qxb6600888a
