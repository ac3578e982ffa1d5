import Derived.Test.Qxb6600888aTri
import Derived.Test.Qxb6600888aZz
namespace Go.Proofs.Qxb6600888a
open Go.RowKit
set_option linter.unusedVariables false
set_option linter.unusedSimpArgs false

def natL (cs : List Int) (n : Nat) : List Nat := (padL cs n).map Int.toNat
theorem natL_length (cs : List Int) (n : Nat) : (natL cs n).length = n := by simp [natL, padL_length]
theorem padL_get (cs : List Int) (n j : Nat) : (padL cs n).getD j 0 = if j < n then cs.getD j 0 else 0 := by
  unfold padL
  rw [List.getD_eq_getElem?_getD, List.getElem?_map]
  by_cases h : j < n
  · rw [if_pos h]; simp [h]
  · rw [if_neg h]; simp [h]
theorem getD_ok {cs : List Int} (h : ∀ c ∈ cs, 0 ≤ c ∧ c < 4294967296) (j : Nat) : 0 ≤ cs.getD j 0 ∧ cs.getD j 0 < 4294967296 := by
  rw [List.getD_eq_getElem?_getD]
  cases hj : cs[j]? with
  | none => exact ⟨by simp, by simp⟩
  | some c => exact h c (List.mem_of_getElem? hj)
theorem natL_cells {cs : List Int} (h : ∀ c ∈ cs, 0 ≤ c ∧ c < 4294967296) (n : Nat) : ((natL cs n).map fun c : Nat => Value.int .u32 c) = (padL cs n).map (Value.int .u32) := by
  unfold natL
  rw [List.map_map]
  apply List.map_congr_left
  intro c hc
  unfold padL at hc
  rw [List.mem_map] at hc
  obtain ⟨j, _, rfl⟩ := hc
  have := getD_ok h j
  simp only [Function.comp]
  congr 1
  omega
theorem natL_lt {cs : List Int} (h : ∀ c ∈ cs, 0 ≤ c ∧ c < 4294967296) (n j : Nat) : (natL cs n).getD j 0 < 4294967296 := by
  unfold natL
  rw [List.getD_eq_getElem?_getD, List.getElem?_map]
  cases hj : (padL cs n)[j]? with
  | none => simp
  | some c =>
    have : (padL cs n).getD j 0 = c := by rw [List.getD_eq_getElem?_getD, hj]; rfl
    rw [padL_get] at this
    have h2 := getD_ok h j
    simp only [Option.map, Option.getD]
    split at this <;> omega

theorem ck_of {xs : List ByteArray} {C A : List Nat} {w0 w : World} {n m : Nat} {ss : List St} {dd : List Dy} {nv : List Nv} {go gH cH gC gA : Nat} {an : Option Addr} (hN : Names (xs.map lst)) (hn : xs.length = n) (hn4 : n ≤ 4096) (hsz : ∀ s ∈ xs, s.size ≤ 1048576) (hA : ∀ j, A.getD j 0 < 4294967296)
    (hr : Res (xs.map lst) C A w0 w go gH cH m ss dd nv) (hnames : CellsAt w an (xs.map Value.string)) (hC : RowAt w gC 38 (C.map fun c : Nat => Value.int .u32 c).toArray) (hA' : RowAt w gA 38 (A.map fun c : Nat => Value.int .u32 c).toArray) (hCl : C.length = n) (hAl : A.length = n) :
    Ck (xs.map lst) C A w n m ss dd nv go gH gC gA an := by
  have hnm : ∀ k (hk : k < xs.length), nm (xs.map lst) k = lst xs[k] := by
    intro k hk; unfold nm; rw [List.getD_eq_getElem?_getD, List.getElem?_map, List.getElem?_eq_getElem hk]; rfl
  refine ⟨hN, by rw [List.length_map]; exact hn, hn4, ?_, hA, ⟨hr.inv, hr.sl, hr.len, hr.at_⟩, ?_, ?_, ?_, ?_, ?_⟩
  · intro j
    by_cases hj : j < xs.length
    · rw [hnm j hj, lst_len]; exact hsz _ (List.getElem_mem hj)
    · unfold nm; rw [List.getD_eq_getElem?_getD, List.getElem?_eq_none (by rw [List.length_map]; omega)]; simp
  · intro wx hb k v hv f hf
    rw [(hr.nodes.below hb hr.nodes.lt).cell, List.getElem?_toArray]
    exact flat_get ndc_len nv k f v hv hf
  · intro wx hb k s hs
    have := hr.heads k s hs
    exact (hb.cell (World.block_lt_of_cell? w _ this)).trans this
  · intro wx hb j hj
    have hjx : j < xs.length := by rw [hn]; exact hj
    obtain ⟨b, off, ha, hc⟩ := (hnames.below hb) j (by simpa using hjx)
    refine ⟨b, off, ha, ?_⟩
    rw [hc]
    simp only [List.getElem_map]
    rw [hnm j hjx, bs_lst]
  · intro wx hb j hj
    exact u32_get (hC.below hb hC.lt) (by rw [hCl]; exact hj)
  · intro wx hb j hj
    exact u32_get (hA'.below hb hA'.lt) (by rw [hAl]; exact hj)

/-- The law's own text, behind its guards. -/
structure In (w : World) (an ac aa : Option Addr) (n nc na : Nat) (xs : List ByteArray) (cs ds : List Int) : Prop where
  ln : xs.length = n
  lc : cs.length = nc
  la : ds.length = na
  zn : an = none → n = 0
  zc : ac = none → nc = 0
  za : aa = none → na = 0
  names : CellsAt w an (xs.map Value.string)
  cats : CellsAt w ac (cs.map (Value.int .u32))
  alls : CellsAt w aa (ds.map (Value.int .u32))
  big : ∀ s ∈ xs, s.size ≤ 9223372036854775807
  cok : ∀ c ∈ cs, 0 ≤ c ∧ c < 4294967296
  aok : ∀ c ∈ ds, 0 ≤ c ∧ c < 4294967296

theorem In.below {w w' : World} {an ac aa : Option Addr} {n nc na : Nat} {xs : List ByteArray} {cs ds : List Int} (h : In w an ac aa n nc na xs cs ds) (hb : Below w.heap.size w w') : In w' an ac aa n nc na xs cs ds :=
  ⟨h.ln, h.lc, h.la, h.zn, h.zc, h.za, h.names.below hb, h.cats.below hb, h.alls.below hb, h.big, h.cok, h.aok⟩

set_option maxHeartbeats 8000000 in
set_option maxRecDepth 1000000 in
theorem law3 (an ac aa : Option Addr) (n cn nc cc na ca : Nat) (xs : List ByteArray) (cs ds : List Int) (w : World) (hin : In w an ac aa n nc na xs cs ds) (h1 : n ≤ 9223372036854775807) (h2 : nc ≤ 9223372036854775807) (h3 : na ≤ 9223372036854775807) :
    Calls Try.prog 3 #[.slice an n cn, .slice ac nc cc, .slice aa na ca] w fun e w' => e = .returned (.bool true) ∧ Below w.heap.size w w' := by
  have HI : Hid (In w an ac aa n nc na xs cs ds) := hin
  have K5 : Hid (∀ w', w' = w → Calls Try.prog 5 #[.slice an n cn, .slice ac nc cc, .slice aa na ca] w' fun e w'' => GB (n + tot xs + nc + na ≤ 1048576) e ∧ w'' = w') := by
    rintro w' rfl
    exact bytes_w an ac aa n cn nc cc na ca xs w' hin.ln hin.names hin.big h2 h3
  clear hin
  go_enter Try.func3, Try.ntmps3
  go_upto_region 1 with fail
  go_wp2_with (go_at_call 5; refine (K5.out _ rfl).mono ?_; rintro e wz ⟨⟨b, rfl, hb⟩, rfl⟩; replace hb := hid hb; cases b)
  all_goals first | (go_ret; exact ⟨rfl, Below.refl _ _⟩) | skip
  have hn4 : n ≤ 4096 := by omega
  have hc4 : nc ≤ 4096 := by omega
  have ha4 : na ≤ 4096 := by omega
  have hsum := hb.out (by simp)
  have hsz : ∀ s ∈ xs, s.size ≤ 1048576 := fun s hs => by have := tot_ge hs; omega
  have K6 := fits_w an n cn (8 * n + 4 * nc + 4 * na) xs wz HI.out.ln (by omega) (by omega) HI.out.names hsz
  push_cast at K6
  have K7 := inOrder_w an n cn xs wz HI.out.ln (by omega) HI.out.names hsz
  replace K7 := hid K7
  have HSZ : Hid (∀ s ∈ xs, s.size ≤ 1048576) := hsz
  refine K6.mono ?_
  rintro e wq ⟨⟨b6, rfl, _⟩, rfl⟩
  clear K6 K5 hb hsum hsz
  cases b6
  all_goals (go_wp2_with (go_at_call 7; refine K7.out.mono ?_; rintro e wp ⟨⟨b7, rfl, hb7⟩, hdr⟩; replace hb7 := hid hb7; replace hdr := hid hdr; cases b7))
  all_goals first | (go_ret; exact ⟨rfl, Below.refl _ _⟩) | (go_ret; obtain ⟨q, rfl⟩ := hdr.out; exact ⟨rfl, below_drewN (Below.refl _ _) _⟩) | skip
  have hNN : Names (xs.map lst) := hb7.out (by simp)
  have hB1 : Below wq.heap.size wq wp := by obtain ⟨q, rfl⟩ := hdr.out; exact below_drewN (Below.refl _ _) _
  have HI1 := HI.out.below hB1
  refine (cloneStrs_any an n cn xs wp HI1.ln (by omega) HI1.zn HI1.names).mono ?_
  rintro e w2 ⟨⟨a8, rfl, hz8, hc8⟩, hb8⟩
  have hC2 := HI1.cats.below hb8
  have hA2 := HI1.alls.below hb8
  have H8 : Hid (Names (xs.map lst) ∧ Below wq.heap.size wq wp ∧ In wp an ac aa n nc na xs cs ds ∧ (a8 = none → n = 0) ∧ CellsAt w2 a8 (xs.map Value.string) ∧ Below wp.heap.size wp w2) := ⟨hNN, hB1, HI1, hz8, hc8, hb8⟩
  clear hNN hB1 hz8 hc8 hb8 HI1 K7 hb7 hdr
  replace hC2 := hid hC2
  replace hA2 := hid hA2
  go_wp2_with fail
  refine (cloneU32_any ac nc cc cs w2 H8.out.2.2.1.lc (by omega) H8.out.2.2.1.zc hC2.out).mono ?_
  rintro e w3 ⟨⟨a9, rfl, hz9, hc9⟩, hb9⟩
  replace hA2 := hid (hA2.out.below hb9)
  have H9 : Hid (CellsAt w3 a9 (cs.map (Value.int .u32)) ∧ CellsAt w3 a8 (xs.map Value.string) ∧ Below w2.heap.size w2 w3) := ⟨hc9, H8.out.2.2.2.2.1.below hb9, hb9⟩
  clear hz9 hc9 hb9 hC2
  go_wp2_with fail
  refine (cloneU32_any aa na ca ds w3 H8.out.2.2.1.la (by omega) H8.out.2.2.1.za hA2.out).mono ?_
  rintro e w4 ⟨⟨a10, rfl, hz10, hc10⟩, hb10⟩
  have H10 : Hid (CellsAt w4 a10 (ds.map (Value.int .u32)) ∧ CellsAt w4 a9 (cs.map (Value.int .u32)) ∧ CellsAt w4 a8 (xs.map Value.string) ∧ Below w3.heap.size w3 w4) := ⟨hc10, H9.out.1.below hb10, H9.out.2.1.below hb10, hb10⟩
  clear hz10 hc10 hb10 hA2
  go_wp2_with fail
  refine (padded_w a9 n nc nc cs w4 H8.out.2.2.1.lc (by omega) (by omega) H10.out.2.1).mono ?_
  rintro e w5 ⟨rfl, hr5, hb5⟩
  have H11 : Hid (RowAt w5 w4.heap.size 38 ((padL cs n).map (Value.int .u32)).toArray ∧ CellsAt w5 a10 (ds.map (Value.int .u32)) ∧ CellsAt w5 a8 (xs.map Value.string) ∧ Below w4.heap.size w4 w5) := ⟨hr5, H10.out.1.below hb5, H10.out.2.2.1.below hb5, hb5⟩
  clear hr5 hb5
  generalize hgC : w4.heap.size = gC at *
  have HGC : Hid (w4.heap.size = gC) := hgC
  clear hgC
  go_wp2_with fail
  refine (padded_w a10 n na na ds w5 H8.out.2.2.1.la (by omega) (by omega) H11.out.2.1).mono ?_
  rintro e w6 ⟨rfl, hr6, hb6⟩
  have H12 : Hid (RowAt w6 w5.heap.size 38 ((padL ds n).map (Value.int .u32)).toArray ∧ RowAt w6 gC 38 ((padL cs n).map (Value.int .u32)).toArray ∧ CellsAt w6 a8 (xs.map Value.string) ∧ Below w5.heap.size w5 w6) := ⟨hr6, H11.out.1.below hb6 H11.out.1.lt, H11.out.2.2.1.below hb6, hb6⟩
  clear hr6 hb6
  have hlen5 : Hid (w5.heap.size = w5.heap.size) := rfl
  generalize hgA : w5.heap.size = gA at *
  have HG : Hid (w5.heap.size = gA) := hgA
  clear hlen5 hgA
  have e1 : RowAt w6 gC 38 ((natL cs n).map fun c : Nat => Value.int .u32 c).toArray := by rw [natL_cells H8.out.2.2.1.cok]; exact H12.out.2.1
  have e2 : RowAt w6 gA 38 ((natL ds n).map fun c : Nat => Value.int .u32 c).toArray := by rw [natL_cells H8.out.2.2.1.aok]; exact H12.out.1
  have K11 := zzBuild_w a8 n gC gA n xs (natL cs n) (natL ds n) w6 H8.out.1 H8.out.2.2.1.ln hn4 HSZ.out (natL_lt H8.out.2.2.1.aok n) H12.out.2.2.1 e1 e2 (natL_length _ _) (natL_length _ _)
  have HE : Hid (RowAt w6 gC 38 ((natL cs n).map fun c : Nat => Value.int .u32 c).toArray ∧ RowAt w6 gA 38 ((natL ds n).map fun c : Nat => Value.int .u32 c).toArray) := ⟨e1, e2⟩
  clear e1 e2
  replace K11 := hid K11
  go_wp2_with fail
  refine K11.out.mono ?_
  rintro e w7 ⟨go, gH, cH, m, ss, dd, nv, rfl, hres⟩
  have hck := ck_of H8.out.1 H8.out.2.2.1.ln hn4 HSZ.out (natL_lt H8.out.2.2.1.aok n) hres (H12.out.2.2.1.below hres.below) (HE.out.1.below hres.below HE.out.1.lt) (HE.out.2.below hres.below HE.out.2.lt) (natL_length _ _) (natL_length _ _)
  have K12 := isTrie_w (cH := cH) (cn := n) hck
  have HB7 : Hid (Below w6.heap.size w6 w7) := hres.below
  clear hres hck K11
  replace K12 := hid K12
  go_wp2_with fail
  refine K12.out.mono ?_
  rintro e w8 ⟨rfl, hb8⟩
  replace hb8 := hid hb8
  go_wp2_with fail
  go_ret
  refine ⟨rfl, ?_⟩
  have t1 := H8.out.2.1
  have t2 := t1.trans (H8.out.2.2.2.2.2.mono t1.size)
  have t3 := t2.trans (H9.out.2.2.mono t2.size)
  have t4 := t3.trans (H10.out.2.2.2.mono t3.size)
  have t5 := t4.trans (H11.out.2.2.2.mono (by rw [← HGC.out]; exact t4.size))
  have t6 := t5.trans (H12.out.2.2.2.mono (by rw [← HG.out]; exact t5.size))
  have t7 := t6.trans (HB7.out.mono t6.size)
  exact t7.trans (hb8.out.mono t7.size)

end Go.Proofs.Qxb6600888a
