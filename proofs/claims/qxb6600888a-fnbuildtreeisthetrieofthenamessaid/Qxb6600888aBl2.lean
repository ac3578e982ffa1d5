import Derived.Test.Qxb6600888aBla
namespace Go.Proofs.Qxb6600888a
open Go.RowKit
set_option linter.unusedVariables false
set_option linter.unusedSimpArgs false

def loops : Code → List Code
  | .loop c => c :: loops c
  | .seq a b => loops a ++ loops b
  | .block _ c => loops c
  | .scope c => loops c
  | .cond _ a b => loops a ++ loops b
  | _ => []
noncomputable def body2 : Code := ((Try.f17.body.map loops).getD []).getD 1 .skip

/-- What buildTree reads, and what it never turns. -/
structure Cx (N : List Str) (C A : List Nat) (w : World) (gt gl n : Nat) : Prop where
  hN : Names N
  hn : N.length = n
  hn4 : n ≤ 4096
  len : ∀ j, (nm N j).length ≤ 1048576
  t0 : ∀ wx, Below w.heap.size w wx → wx.cell? ⟨gt, 0, none⟩ = some (.slice (some ⟨gl, 0, none⟩) n n)
  t1 : ∀ wx, Below w.heap.size w wx → wx.cell? ⟨gt, 1, none⟩ = some (.int .i64 0)
  l : ∀ wx, Below w.heap.size w wx → ∀ j, j < n → ∀ f, f < 5 → wx.cell? ⟨gl, j * 5 + f, none⟩ = (dfc N C A j)[f]?

/-- The state in the inner loop: the children of ss's node up to l stand. -/
structure S2 (N : List Str) (C A : List Nat) (w : World) (gt gl n gp : Nat) (P : Str) (l0 hi en : Nat) (ss : List St) (dd : List Dy) (l gS cS gN cN gH cH m : Nat) (ks : List St) (nv : List Nv) (wx : World) : Prop where
  grow : Grow N P ss l0 hi l ks
  tab : Tab nv (ss ++ ks) dd
  mem : M3 w.heap.size wx gS cS gN cN gH cH m (ss ++ ks) nv
  row : RowAt wx gp 64 #[.int .i64 l0, .int .i64 hi, .int .i64 en]
  ne : gp ≠ gS
  below : Below w.heap.size w wx

section
variable {N : List Str} {C A : List Nat} {w : World} {gt gl n gp : Nat} {P : Str} {l0 hi en : Nat} {ss : List St} {dd : List Dy} {l gS cS gN cN gH cH m : Nat} {ks : List St} {nv : List Nv} {wx wy : World}
theorem S2.drew (h : S2 N C A w gt gl n gp P l0 hi en ss dd l gS cS gN cN gH cH m ks nv wx) (hd : ∃ k, wy = wx.drewN k) : S2 N C A w gt gl n gp P l0 hi en ss dd l gS cS gN cN gH cH m ks nv wy := by
  obtain ⟨k, rfl⟩ := hd
  have hb : Below wx.heap.size wx (wx.drewN k) := below_drewN (Below.refl _ _) _
  exact ⟨h.grow, h.tab, h.mem.below hb, h.row.below hb h.row.lt, h.ne, h.below.trans (hb.mono h.below.size)⟩
end

theorem slice_from (w : World) (s : Str) (st : Nat) (h : st ≤ s.length) : (Instr.slice 9 (.string (bs s)) (some (.int .i64 (st : Int))) none none).run Try.prog w = .ok (.string (bs (s.drop st))) w := by
  rw [run_slice_string_l w 9 (bs s) Try.underlying9 .i64 st (by omega) (by rw [bs_size]; omega)]
  rw [extract_bs (bs s) _ _ (Nat.le_refl _), lst_bs, bs_size, List.take_of_length_le (Nat.le_refl _)]
  simp
theorem slice_to (w : World) (s : Str) (p : Nat) (h : p ≤ s.length) : (Instr.slice 9 (.string (bs s)) none (some (.int .i64 (p : Int))) none).run Try.prog w = .ok (.string (bs (s.take p))) w := by
  rw [run_slice_string_h w 9 (bs s) Try.underlying9 .i64 p (by omega) (by rw [bs_size]; omega)]
  rw [extract_bs (bs s) _ _ (by rw [bs_size]; omega), lst_bs]
  simp

/-- One child more. -/
theorem S2.step {N : List Str} {C A : List Nat} {w : World} {gt gl n gp : Nat} {P : Str} {l0 hi en : Nat} {ss : List St} {dd : List Dy} {l gS cS gN cN gH cH m : Nat} {ks : List St} {nv : List Nv} {wx w1 w2 w3 : World}
    (hN : Names N) (R : Range N P l0 hi) (hdl : dd.length ≤ ss.length) (h : S2 N C A w gt gl n gp P l0 hi en ss dd l gS cS gN cN gH cH m ks nv wx) {h' p : Nat} (hlh : l < h') (hh : h' ≤ hi)
    (hgrp : ∀ j, l ≤ j → j < h' → fn (rest N P j) = fn (rest N P l)) (hend : h' = hi ∨ fn (rest N P h') ≠ fn (rest N P l)) (hp : Shared (rest N P l) (rest N P (h' - 1)) p) {c : St} (hc : c = ⟨(rest N P l).take p, l, h', P.length + p⟩)
    {gN' cN' gH' cH' gS' cS' : Nat} (o1 : w1.ownsRow w.heap.size 56 8 (.slice (some ⟨gN', 0, none⟩) (m + 1) cN') (m + 1) (nv.flatMap ndc ++ ndc (nvOf c Dy.zero 0))) (k1 : Kept (· = gN) wx w1)
    (o2 : w2.ownsRow w.heap.size 41 1 (.slice (some ⟨gH', 0, none⟩) (m + 1) cH') (m + 1) ((ss ++ ks).flatMap hdc ++ hdc c)) (k2 : Kept (· = gH) w1 w2)
    (o3 : w3.ownsRow w.heap.size 64 3 (.slice (some ⟨gS', 0, none⟩) (m + 1) cS') (m + 1) ((ss ++ ks).flatMap spc ++ spc c)) (k3 : Kept (· = gS) w2 w3) (hs0 : 0 < ss.length) :
    S2 N C A w gt gl n gp P l0 hi en ss dd h' gS' cS' gN' cN' gH' cH' (m + 1) (ks ++ [c]) (nv ++ [nvOf c Dy.zero 0]) w3 := by
  have hg := h.grow.step hN R hlh hh hgrp hend hp
  rw [← hc] at hg
  have hB := h.below.size
  have nSN := own_ne h.mem.sp h.mem.nd (by decide)
  have nHN := own_ne h.mem.hd h.mem.nd (by decide)
  have nSH := own_ne h.mem.sp h.mem.hd (by decide)
  have rowne : ∀ {wy : World} {e : Nat} {sz g c n : Nat} {xs : List Value}, RowAt wy gp 64 #[.int .i64 l0, .int .i64 hi, .int .i64 en] → wy.ownsRow w.heap.size e sz (.slice (some ⟨g, 0, none⟩) n c) n xs → e ≠ 64 → gp ≠ g := by
    intro wy e sz g c n xs hr ho he hgg
    subst hgg
    obtain ⟨_, cur, h1, _⟩ := own_at ho
    rw [hr] at h1
    cases h1
    exact he rfl
  -- the world behind the nodes
  have r1 := h.row.kept k1 (rowne h.row h.mem.nd (by decide))
  have H1 := own_kept h.mem.hd k1 nHN
  have S1 := own_kept h.mem.sp k1 nSN
  -- behind the heads
  have r2 := r1.kept k2 (rowne r1 H1 (by decide))
  have S2' := own_kept S1 k2 nSH
  have N2 := own_kept o1 k2 (own_ne o1 H1 (by decide))
  -- behind the spans
  have r3 := r2.kept k3 h.ne
  have N3 := own_kept N2 k3 (own_ne N2 S2' (by decide))
  have H3 := own_kept o2 k3 (own_ne o2 S2' (by decide))
  have hm : (ss ++ (ks ++ [c])).length = m + 1 := by
    have := h.mem.len
    rw [← List.append_assoc, List.length_append, this]; rfl
  have hm1 : 1 ≤ m := by have := h.mem.len; rw [List.length_append] at this; omega
  refine ⟨hg, ?_, ⟨hm, ?_, ?_, ?_⟩, r3, ?_, ?_⟩
  · rw [← List.append_assoc]
    exact h.tab.snoc (by rw [List.length_append]; omega) c
  · rw [← List.append_assoc, List.flatMap_append]
    simpa using o3
  · rw [List.flatMap_append]
    simpa using N3
  · rw [← List.append_assoc, List.flatMap_append]
    simpa using H3
  · rintro rfl
    obtain ⟨_, cur, h1, _, h3, _, h5⟩ := own_at o3
    rw [r3] at h1
    cases h1
    simp at h5
    omega
  · have b1 : Below w.heap.size wx w1 := k1.below hB (fun k hk e => by have := (own_at h.mem.nd).1; omega)
    have b2 : Below w.heap.size w1 w2 := k2.below (by have := b1.size; omega) (fun k hk e => by have := (own_at H1).1; omega)
    have b3 : Below w.heap.size w2 w3 := k3.below (by have := b1.size; have := b2.size; omega) (fun k hk e => by have := (own_at S2').1; omega)
    exact h.below.trans (b1.trans (b2.trans b3))

theorem ndc_one (v : Nv) : ∀ u ∈ ndc v, u.oneCell' = true := by
  intro u hu
  simp only [ndc, List.mem_cons, List.not_mem_nil, or_false] at hu
  rcases hu with rfl | rfl | rfl | rfl | rfl | rfl | rfl | rfl <;> rfl
theorem spc_one (v : St) : ∀ u ∈ spc v, u.oneCell' = true := by
  intro u hu
  simp only [spc, List.mem_cons, List.not_mem_nil, or_false] at hu
  rcases hu with rfl | rfl | rfl <;> rfl
theorem hdc_one (v : St) : ∀ u ∈ hdc v, u.oneCell' = true := by
  intro u hu
  simp only [hdc, List.mem_cons, List.not_mem_nil, or_false] at hu
  rcases hu with rfl; rfl

set_option maxHeartbeats 8000000 in
set_option maxRecDepth 1000000 in
theorem L2 {N : List Str} {C A : List Nat} {w : World} {gt gl n gp : Nat} (cx : Cx N C A w gt gl n) {P : Str} {l0 hi en : Nat} (R : Range N P l0 hi) {ss : List St} {dd : List Dy} (hdl : dd.length ≤ ss.length) (hss : ss.length ≤ 8193) (hs0 : 0 < ss.length)
    {gS cS gN cN gH cH m : Nat} {nv : List Nv} (wr : World) (st : Nat) (hst : st = P.length) (h0 : S2 N C A w gt gl n gp P l0 hi en ss dd l0 gS cS gN cN gH cH m [] nv wr)
    (Q : Exit → Act → World → Prop) (u1 u5 u7 u10 u11 u12 u13 u14 u15 u16 u17 u18 u19 u20 u21 u22 u23 u24 u25 u26 u27 u28 u29 u30 u31 u32 u33 u34 u35 u36 u37 u38 u39 u40 u41 u42 u43 u44 u45 u46 u47 u48 u49 u50 u51 u52 u53 u54 u55 u56 u57 u58 u59 u60 u61 u62 u63 u64 u65 u66 u67 u68 u69 u70 u71 u72 u73 u74 u75 u76 u77 u78 u79 u80 u81 u82 u83 u84 u85 u86 u87 u88 u89 u90 u91 u92 u93 u94 u95 u96 u97 u98 u99 u100 u101 u102 u103 u104 u105 u106 u107 u108 u109 u110 u111 u112 u113 u114 u115 u116 u117 u118 u119 u120 u121 u122 u123 u124 u125 u126 u127 u128 u129 u130 u131 u132 u133 u134 u135 u136 u137 u138 u139 u140 u141 u142 u143 u144 u145 u146 u147 u148 u149 u150 u151 u152 u153 u154 u155 u156 u157 u158 u159 u160 u161 u162 u163 u164 u165 u166 u167 u168 u169 u170 u171 u172 u173 u174 u175 u176 u177 u178 u179 u180 u181 u182 u183 u184 u185 u186 u187 u188 u189 u190 u191 u192 u193 u194 u195 u196 u197 u198 u199 u200 u201 u202 u203 u204 u205 u206 u207 u208 u209 u210 u211 u212 u213 u214 u215 u216 u217 u218 u219 u220 u221 u222 u223 u224 u225 u226 u227 u228 u229 u230 u231 u232 u233 u234 u235 u236 u237 u238 u239 u240 u241 u242 u243 u244 u245 u246 u247 u248 u249 u250 u251 u252 u253 u254 u255 u256 u257 u258 u259 u260 u261 u262 u263 u264 u265 u266 u267 u268 u269 u270 u271 u272 u273 u274 u275 u276 u277 u278 u279 u280 u281 u282 u283 u284 u285 u286 u287 u288 u289 u290 u291 u292 u293 : Value)
    (hexit : ∀ (x10 x11 x12 x13 x14 x15 x16 x17 x143 x144 x145 x146 x147 x148 x149 x150 x151 x152 x153 x154 x155 x156 x157 x158 x159 x160 x161 x162 x163 x164 x165 x166 x167 x168 x169 x170 x171 x172 x173 x174 x175 x176 x177 x178 x179 x180 x181 x182 x183 x184 x185 x186 x187 x188 x189 x190 x191 x192 x193 x194 x195 x196 x197 x198 x199 x200 x201 x202 x203 x204 x205 x206 x207 x208 x209 x210 x211 x212 x213 x214 x215 x216 x217 x218 x219 x220 x221 x222 x223 x224 x225 x226 x227 x228 x229 : Value) (gS' cS' gN' cN' gH' cH' m' : Nat) (ks : List St) (nv' : List Nv) (wz : World), S2 N C A w gt gl n gp P l0 hi en ss dd hi gS' cS' gN' cN' gH' cH' m' ks nv' wz → Q (.exit 2) ⟨List.toArray ((Value.pointer (some ⟨gt, 0, none⟩)) :: u1 :: (Value.slice (some ⟨gS', 0, none⟩) m' cS') :: (Value.slice (some ⟨gN', 0, none⟩) m' cN') :: (Value.slice (some ⟨gH', 0, none⟩) m' cH') :: u5 :: (Value.pointer (some ⟨gp, 0, none⟩)) :: u7 :: (Value.int .i64 (st : Int)) :: (Value.int .i64 (hi : Int)) :: x10 :: x11 :: x12 :: x13 :: x14 :: x15 :: x16 :: x17 :: u18 :: u19 :: u20 :: u21 :: u22 :: u23 :: u24 :: u25 :: u26 :: u27 :: u28 :: u29 :: u30 :: u31 :: u32 :: u33 :: u34 :: u35 :: u36 :: u37 :: u38 :: u39 :: u40 :: u41 :: u42 :: u43 :: u44 :: u45 :: u46 :: u47 :: u48 :: u49 :: u50 :: u51 :: u52 :: u53 :: u54 :: u55 :: u56 :: u57 :: u58 :: u59 :: u60 :: u61 :: u62 :: u63 :: u64 :: u65 :: u66 :: u67 :: u68 :: u69 :: u70 :: u71 :: u72 :: u73 :: u74 :: u75 :: u76 :: u77 :: u78 :: u79 :: u80 :: u81 :: u82 :: u83 :: u84 :: u85 :: u86 :: u87 :: u88 :: u89 :: u90 :: u91 :: u92 :: u93 :: u94 :: u95 :: u96 :: u97 :: u98 :: u99 :: u100 :: u101 :: u102 :: u103 :: u104 :: u105 :: u106 :: u107 :: u108 :: u109 :: u110 :: u111 :: u112 :: u113 :: u114 :: u115 :: u116 :: u117 :: u118 :: u119 :: u120 :: u121 :: u122 :: u123 :: u124 :: u125 :: u126 :: u127 :: u128 :: u129 :: u130 :: u131 :: u132 :: u133 :: u134 :: u135 :: u136 :: u137 :: u138 :: u139 :: u140 :: u141 :: u142 :: x143 :: x144 :: x145 :: x146 :: x147 :: x148 :: x149 :: x150 :: x151 :: x152 :: x153 :: x154 :: x155 :: x156 :: x157 :: x158 :: x159 :: x160 :: x161 :: x162 :: x163 :: x164 :: x165 :: x166 :: x167 :: x168 :: x169 :: x170 :: x171 :: x172 :: x173 :: x174 :: x175 :: x176 :: x177 :: x178 :: x179 :: x180 :: x181 :: x182 :: x183 :: x184 :: x185 :: x186 :: x187 :: x188 :: x189 :: x190 :: x191 :: x192 :: x193 :: x194 :: x195 :: x196 :: x197 :: x198 :: x199 :: x200 :: x201 :: x202 :: x203 :: x204 :: x205 :: x206 :: x207 :: x208 :: x209 :: x210 :: x211 :: x212 :: x213 :: x214 :: x215 :: x216 :: x217 :: x218 :: x219 :: x220 :: x221 :: x222 :: x223 :: x224 :: x225 :: x226 :: x227 :: x228 :: x229 :: u230 :: u231 :: u232 :: u233 :: u234 :: u235 :: u236 :: u237 :: u238 :: u239 :: u240 :: u241 :: u242 :: u243 :: u244 :: u245 :: u246 :: u247 :: u248 :: u249 :: u250 :: u251 :: u252 :: u253 :: u254 :: u255 :: u256 :: u257 :: u258 :: u259 :: u260 :: u261 :: u262 :: u263 :: u264 :: u265 :: u266 :: u267 :: u268 :: u269 :: u270 :: u271 :: u272 :: u273 :: u274 :: u275 :: u276 :: u277 :: u278 :: u279 :: u280 :: u281 :: u282 :: u283 :: u284 :: u285 :: u286 :: u287 :: u288 :: u289 :: u290 :: u291 :: u292 :: u293 :: []), []⟩ wz) :
    Code.wp Try.prog (Code.loop body2) Q ⟨List.toArray ((Value.pointer (some ⟨gt, 0, none⟩)) :: u1 :: (Value.slice (some ⟨gS, 0, none⟩) m cS) :: (Value.slice (some ⟨gN, 0, none⟩) m cN) :: (Value.slice (some ⟨gH, 0, none⟩) m cH) :: u5 :: (Value.pointer (some ⟨gp, 0, none⟩)) :: u7 :: (Value.int .i64 (st : Int)) :: (Value.int .i64 (l0 : Int)) :: u10 :: u11 :: u12 :: u13 :: u14 :: u15 :: u16 :: u17 :: u18 :: u19 :: u20 :: u21 :: u22 :: u23 :: u24 :: u25 :: u26 :: u27 :: u28 :: u29 :: u30 :: u31 :: u32 :: u33 :: u34 :: u35 :: u36 :: u37 :: u38 :: u39 :: u40 :: u41 :: u42 :: u43 :: u44 :: u45 :: u46 :: u47 :: u48 :: u49 :: u50 :: u51 :: u52 :: u53 :: u54 :: u55 :: u56 :: u57 :: u58 :: u59 :: u60 :: u61 :: u62 :: u63 :: u64 :: u65 :: u66 :: u67 :: u68 :: u69 :: u70 :: u71 :: u72 :: u73 :: u74 :: u75 :: u76 :: u77 :: u78 :: u79 :: u80 :: u81 :: u82 :: u83 :: u84 :: u85 :: u86 :: u87 :: u88 :: u89 :: u90 :: u91 :: u92 :: u93 :: u94 :: u95 :: u96 :: u97 :: u98 :: u99 :: u100 :: u101 :: u102 :: u103 :: u104 :: u105 :: u106 :: u107 :: u108 :: u109 :: u110 :: u111 :: u112 :: u113 :: u114 :: u115 :: u116 :: u117 :: u118 :: u119 :: u120 :: u121 :: u122 :: u123 :: u124 :: u125 :: u126 :: u127 :: u128 :: u129 :: u130 :: u131 :: u132 :: u133 :: u134 :: u135 :: u136 :: u137 :: u138 :: u139 :: u140 :: u141 :: u142 :: u143 :: u144 :: u145 :: u146 :: u147 :: u148 :: u149 :: u150 :: u151 :: u152 :: u153 :: u154 :: u155 :: u156 :: u157 :: u158 :: u159 :: u160 :: u161 :: u162 :: u163 :: u164 :: u165 :: u166 :: u167 :: u168 :: u169 :: u170 :: u171 :: u172 :: u173 :: u174 :: u175 :: u176 :: u177 :: u178 :: u179 :: u180 :: u181 :: u182 :: u183 :: u184 :: u185 :: u186 :: u187 :: u188 :: u189 :: u190 :: u191 :: u192 :: u193 :: u194 :: u195 :: u196 :: u197 :: u198 :: u199 :: u200 :: u201 :: u202 :: u203 :: u204 :: u205 :: u206 :: u207 :: u208 :: u209 :: u210 :: u211 :: u212 :: u213 :: u214 :: u215 :: u216 :: u217 :: u218 :: u219 :: u220 :: u221 :: u222 :: u223 :: u224 :: u225 :: u226 :: u227 :: u228 :: u229 :: u230 :: u231 :: u232 :: u233 :: u234 :: u235 :: u236 :: u237 :: u238 :: u239 :: u240 :: u241 :: u242 :: u243 :: u244 :: u245 :: u246 :: u247 :: u248 :: u249 :: u250 :: u251 :: u252 :: u253 :: u254 :: u255 :: u256 :: u257 :: u258 :: u259 :: u260 :: u261 :: u262 :: u263 :: u264 :: u265 :: u266 :: u267 :: u268 :: u269 :: u270 :: u271 :: u272 :: u273 :: u274 :: u275 :: u276 :: u277 :: u278 :: u279 :: u280 :: u281 :: u282 :: u283 :: u284 :: u285 :: u286 :: u287 :: u288 :: u289 :: u290 :: u291 :: u292 :: u293 :: []), []⟩ wr := by
  replace hst := hid hst
  have CX : Hid (Cx N C A w gt gl n) := cx
  have HR : Hid (Range N P l0 hi) := R
  have H0 : Hid (S2 N C A w gt gl n gp P l0 hi en ss dd l0 gS cS gN cN gH cH m [] nv wr) := h0
  have hln : hi ≤ 4096 := by have := R.hin; have := cx.hn; have := cx.hn4; omega
  have HEX : Hid (∀ (x10 x11 x12 x13 x14 x15 x16 x17 x143 x144 x145 x146 x147 x148 x149 x150 x151 x152 x153 x154 x155 x156 x157 x158 x159 x160 x161 x162 x163 x164 x165 x166 x167 x168 x169 x170 x171 x172 x173 x174 x175 x176 x177 x178 x179 x180 x181 x182 x183 x184 x185 x186 x187 x188 x189 x190 x191 x192 x193 x194 x195 x196 x197 x198 x199 x200 x201 x202 x203 x204 x205 x206 x207 x208 x209 x210 x211 x212 x213 x214 x215 x216 x217 x218 x219 x220 x221 x222 x223 x224 x225 x226 x227 x228 x229 : Value) (gS' cS' gN' cN' gH' cH' m' : Nat) (ks : List St) (nv' : List Nv) (wz : World), S2 N C A w gt gl n gp P l0 hi en ss dd hi gS' cS' gN' cN' gH' cH' m' ks nv' wz → Q (.exit 2) ⟨List.toArray ((Value.pointer (some ⟨gt, 0, none⟩)) :: u1 :: (Value.slice (some ⟨gS', 0, none⟩) m' cS') :: (Value.slice (some ⟨gN', 0, none⟩) m' cN') :: (Value.slice (some ⟨gH', 0, none⟩) m' cH') :: u5 :: (Value.pointer (some ⟨gp, 0, none⟩)) :: u7 :: (Value.int .i64 (st : Int)) :: (Value.int .i64 (hi : Int)) :: x10 :: x11 :: x12 :: x13 :: x14 :: x15 :: x16 :: x17 :: u18 :: u19 :: u20 :: u21 :: u22 :: u23 :: u24 :: u25 :: u26 :: u27 :: u28 :: u29 :: u30 :: u31 :: u32 :: u33 :: u34 :: u35 :: u36 :: u37 :: u38 :: u39 :: u40 :: u41 :: u42 :: u43 :: u44 :: u45 :: u46 :: u47 :: u48 :: u49 :: u50 :: u51 :: u52 :: u53 :: u54 :: u55 :: u56 :: u57 :: u58 :: u59 :: u60 :: u61 :: u62 :: u63 :: u64 :: u65 :: u66 :: u67 :: u68 :: u69 :: u70 :: u71 :: u72 :: u73 :: u74 :: u75 :: u76 :: u77 :: u78 :: u79 :: u80 :: u81 :: u82 :: u83 :: u84 :: u85 :: u86 :: u87 :: u88 :: u89 :: u90 :: u91 :: u92 :: u93 :: u94 :: u95 :: u96 :: u97 :: u98 :: u99 :: u100 :: u101 :: u102 :: u103 :: u104 :: u105 :: u106 :: u107 :: u108 :: u109 :: u110 :: u111 :: u112 :: u113 :: u114 :: u115 :: u116 :: u117 :: u118 :: u119 :: u120 :: u121 :: u122 :: u123 :: u124 :: u125 :: u126 :: u127 :: u128 :: u129 :: u130 :: u131 :: u132 :: u133 :: u134 :: u135 :: u136 :: u137 :: u138 :: u139 :: u140 :: u141 :: u142 :: x143 :: x144 :: x145 :: x146 :: x147 :: x148 :: x149 :: x150 :: x151 :: x152 :: x153 :: x154 :: x155 :: x156 :: x157 :: x158 :: x159 :: x160 :: x161 :: x162 :: x163 :: x164 :: x165 :: x166 :: x167 :: x168 :: x169 :: x170 :: x171 :: x172 :: x173 :: x174 :: x175 :: x176 :: x177 :: x178 :: x179 :: x180 :: x181 :: x182 :: x183 :: x184 :: x185 :: x186 :: x187 :: x188 :: x189 :: x190 :: x191 :: x192 :: x193 :: x194 :: x195 :: x196 :: x197 :: x198 :: x199 :: x200 :: x201 :: x202 :: x203 :: x204 :: x205 :: x206 :: x207 :: x208 :: x209 :: x210 :: x211 :: x212 :: x213 :: x214 :: x215 :: x216 :: x217 :: x218 :: x219 :: x220 :: x221 :: x222 :: x223 :: x224 :: x225 :: x226 :: x227 :: x228 :: x229 :: u230 :: u231 :: u232 :: u233 :: u234 :: u235 :: u236 :: u237 :: u238 :: u239 :: u240 :: u241 :: u242 :: u243 :: u244 :: u245 :: u246 :: u247 :: u248 :: u249 :: u250 :: u251 :: u252 :: u253 :: u254 :: u255 :: u256 :: u257 :: u258 :: u259 :: u260 :: u261 :: u262 :: u263 :: u264 :: u265 :: u266 :: u267 :: u268 :: u269 :: u270 :: u271 :: u272 :: u273 :: u274 :: u275 :: u276 :: u277 :: u278 :: u279 :: u280 :: u281 :: u282 :: u283 :: u284 :: u285 :: u286 :: u287 :: u288 :: u289 :: u290 :: u291 :: u292 :: u293 :: []), []⟩ wz) := hexit
  clear cx R h0 hexit
  conv => arg 2; arg 1; whnf
  go_loopg [2, 3, 4, 9] (hi - l0) (fun g v2 v3 v4 v9 wx => ∃ (gS cS gN cN gH cH m l : Nat) (ks : List St) (nv : List Nv), v2 = .slice (some ⟨gS, 0, none⟩) m cS ∧ v3 = .slice (some ⟨gN, 0, none⟩) m cN ∧ v4 = .slice (some ⟨gH, 0, none⟩) m cH ∧ v9 = .int .i64 (l : Int) ∧ l + g = hi ∧ S2 N C A w gt gl n gp P l0 hi en ss dd l gS cS gN cN gH cH m ks nv wx)
  case atStart => exact ⟨gS, cS, gN, cN, gH, cH, m, l0, [], nv, rfl, rfl, rfl, rfl, by have := HR.out.le; omega, H0.out⟩
  case round =>
    obtain ⟨gS, cS, gN, cN, gH, cH, m, l, ks, nv, rfl, rfl, rfl, rfl, hlg, hS⟩ := hrel
    have HS : Hid (S2 N C A w gt gl n gp P l0 hi en ss dd l gS cS gN cN gH cH m ks nv wr) := hS
    have hrow1 : wr.cell? ⟨gp, 1, none⟩ = some (.int .i64 hi) := hS.row.cell 1
    have hll : l0 ≤ l := hS.grow.bl
    clear hS
    cases gk with
    | zero =>
      have hlt : ¬ (l : Int) < (hi : Int) := by omega
      obtain rfl : l = hi := by omega
      go_wp2_with fail
      exact HEX.out _ _ _ _ _ _ _ _ _ _ _ _ _ _ _ _ _ _ _ _ _ _ _ _ _ _ _ _ _ _ _ _ _ _ _ _ _ _ _ _ _ _ _ _ _ _ _ _ _ _ _ _ _ _ _ _ _ _ _ _ _ _ _ _ _ _ _ _ _ _ _ _ _ _ _ _ _ _ _ _ _ _ _ _ _ _ _ _ _ _ _ _ _ _ _ gS cS gN cN gH cH m ks nv wr HS.out
    | succ g =>
      have hlh : l < hi := by omega
      have hlti : (l : Int) < (hi : Int) := by omega
      have hln2 : l < n := by have := HR.out.hin; have := CX.out.hn; omega
      have hlni : (l : Int) < (n : Int) := by omega
      have hl00 : (0 : Int) ≤ (l : Int) := by omega
      have hT0 := CX.out.t0 wr HS.out.below
      have hNl : wr.cell? ⟨gl, l * 5, none⟩ = some (.string (bs (nm N l))) := CX.out.l wr HS.out.below l hln2 0 (by omega)
      have hpre := HR.out.pre l hll hlh
      have hpl : P.length ≤ (nm N l).length := by
        have := congrArg List.length hpre.1; rw [List.length_append] at this; omega
      obtain ⟨a, ha⟩ : ∃ a, rest N P l = a := ⟨_, rfl⟩
      have hda : Hid (dotted a = true) := by show _ = _; rw [← ha]; exact hpre.2
      have hasz : a.length ≤ 1048576 := by rw [← ha]; unfold rest; rw [List.length_drop]; have := CX.out.len l; omega
      have hsl : ∀ w, (Instr.slice 9 (.string (bs (nm N l))) (some (.int .i64 (st : Int))) none none).run Try.prog w = .ok (.string (bs a)) w := fun w => by
        rw [hst.out, slice_from w _ _ hpl, ← ha]; rfl
      have K23 : Hid (∀ w, Calls Try.prog 23 #[.string (bs a), .string ⟨#[46]⟩] w fun e w' => (∃ b c, e = .returned (.tuple #[.string (bs (fn a)), b, c])) ∧ ∃ n, w' = w.drewN n) := fun w => cut_w (bs a) w hasz
      replace ha := hid ha
      clear hpre hpl
      have hw1 : IntKind.i64.wrap ((l : Int) + 1) = ((l + 1 : Nat) : Int) := by rw [wrap_small _ (by omega) (by omega)]; push_cast; rfl
      go_upto_block 4 with (go_at_call 23; refine (K23.out _).mono ?_; rintro e wz ⟨⟨b1, b2, rfl⟩, hdz⟩; replace hdz := hid hdz)
      have HS2 : Hid (S2 N C A w gt gl n gp P l0 hi en ss dd l gS cS gN cN gH cH m ks nv wz) := HS.out.drew hdz.out
      have hrow2 : wz.cell? ⟨gp, 1, none⟩ = some (.int .i64 hi) := HS2.out.row.cell 1
      have hT02 := CX.out.t0 wz HS2.out.below
      clear hrow1 hT0 hNl HS hdz
      have hfne : Hid (lst (bs (fn a)) ≠ []) := by
        show fn a ≠ []
        intro e
        have hne := dotted_ne hda.out
        obtain ⟨x, r, rfl⟩ := List.exists_cons_of_ne_nil hne
        by_cases hx : x = 46
        · subst hx; exact absurd hda.out (by simp [dotted, aut])
        · rw [fn_cons hx] at e; cases e
      go_cut [14] from 165 to 184 (fun t wx => ∃ h : Nat, t = .int .i64 (h : Int) ∧ l < h ∧ h ≤ hi ∧ (∀ j, l ≤ j → j < h → fn (rest N P j) = fn a) ∧ (h = hi ∨ fn (rest N P h) ≠ fn a) ∧ wx = wz)
      case first =>
        go_wp2_with fail
        go_loopg [14] (hi - (l + 1)) (fun g v wx => ∃ h : Nat, v = .int .i64 (h : Int) ∧ h + g = hi ∧ l < h ∧ (∀ j, l ≤ j → j < h → fn (rest N P j) = fn a) ∧ wx = wz)
        case atStart =>
          refine ⟨l + 1, rfl, by omega, by omega, fun j hj hj2 => ?_, rfl⟩
          obtain rfl : j = l := by omega
          rw [ha.out]
        case round =>
          obtain ⟨h, rfl, hhg, hlh2, hgrp, rfl⟩ := hrel
          replace hgrp := hid hgrp
          cases gk with
          | zero =>
            have hnlt : ¬ (h : Int) < (hi : Int) := by omega
            go_wp2_with fail
            go_meet
            case rel => exact ⟨h, rfl, hlh2, by omega, hgrp.out, Or.inl (by omega), rfl⟩
          | succ g2 =>
            have hh2 : h < hi := by omega
            have hhi : (h : Int) < (hi : Int) := by omega
            have hhn2 : h < n := by have := HR.out.hin; have := CX.out.hn; omega
            have hhni : (h : Int) < (n : Int) := by omega
            have hh00 : (0 : Int) ≤ (h : Int) := by omega
            have hNh : wr.cell? ⟨gl, h * 5, none⟩ = some (.string (bs (nm N h))) := CX.out.l wr HS2.out.below h hhn2 0 (by omega)
            have hpre := HR.out.pre h (by omega) hh2
            have hpl : P.length ≤ (nm N h).length := by
              have := congrArg List.length hpre.1; rw [List.length_append] at this; omega
            have hbsz : (rest N P h).length ≤ 1048576 := by unfold rest; rw [List.length_drop]; have := CX.out.len h; omega
            have hslh : ∀ w, (Instr.slice 9 (.string (bs (nm N h))) (some (.int .i64 (st : Int))) none none).run Try.prog w = .ok (.string (bs (rest N P h))) w := fun w => by
              rw [hst.out, slice_from w _ _ hpl]; rfl
            have hw2 : IntKind.i64.wrap ((h : Int) + 1) = ((h + 1 : Nat) : Int) := by rw [wrap_small _ (by omega) (by omega)]; push_cast; rfl
            clear hpre hpl
            by_cases hfe : fn (rest N P h) = fn a
            · have K24 : Hid (∀ w, Calls Try.prog 24 #[.string (bs (fn a)), .string (bs (rest N P h))] w fun e w' => e = .returned (.bool true) ∧ w' = w) := fun w =>
                holds_yes _ _ w hfne.out hbsz (by rw [lst_bs, lst_bs]; exact holds_iff_fn.2 hfe)
              have HF : Hid (∀ j, l ≤ j → j < h + 1 → fn (rest N P j) = fn a) := by
                intro j hj hj2
                by_cases e : j = h
                · subst e; exact hfe
                · exact hgrp.out j hj (by omega)
              generalize rest N P h = b at *
              clear hfe
              go_wp2_with (go_at_call 24; refine keepW (K24.out _) ?_; rintro e rfl)
              go_roundg g2
              case measure => omega
              case rel => exact ⟨h + 1, by go_num, by omega, by omega, HF.out, rfl⟩
            · have K24 : Hid (∀ w, Calls Try.prog 24 #[.string (bs (fn a)), .string (bs (rest N P h))] w fun e w' => e = .returned (.bool false) ∧ w' = w) := fun w =>
                holds_no _ _ w hfne.out hbsz (by rw [lst_bs, lst_bs]; exact fun hh => hfe (holds_iff_fn.1 hh))
              have HF : Hid (fn (rest N P h) ≠ fn a) := hfe
              clear hfe
              generalize hb : bs (rest N P h) = b at *
              clear hb
              go_wp2_with (go_at_call 24; refine keepW (K24.out _) ?_; rintro e rfl)
              go_meet
              case rel => exact ⟨h, rfl, hlh2, by omega, hgrp.out, Or.inr HF.out, rfl⟩
      case rest =>
        obtain ⟨h, rfl, hlh2, hhh, hgrp, hend, rfl⟩ := hcut
        replace hgrp := hid hgrp
        replace hend := hid hend
        obtain ⟨h1, hh1⟩ : ∃ h1, h = h1 + 1 := ⟨h - 1, by omega⟩
        have h1n : h1 < n := by have := HR.out.hin; have := CX.out.hn; omega
        have h1ni : (h1 : Int) < (n : Int) := by omega
        have h100 : (0 : Int) ≤ (h1 : Int) := by omega
        have hwh : IntKind.i64.wrap ((h : Int) - 1) = (h1 : Int) := by rw [wrap_small _ (by omega) (by omega)]; omega
        have hNh : wc.cell? ⟨gl, h1 * 5, none⟩ = some (.string (bs (nm N h1))) := CX.out.l wc HS2.out.below h1 h1n 0 (by omega)
        have hpre := HR.out.pre h1 (by omega) (by omega)
        have hpl : P.length ≤ (nm N h1).length := by
          have := congrArg List.length hpre.1; rw [List.length_append] at this; omega
        obtain ⟨b, hb⟩ : ∃ b, rest N P h1 = b := ⟨_, rfl⟩
        have hbsz : b.length ≤ 1048576 := by rw [← hb]; unfold rest; rw [List.length_drop]; have := CX.out.len h1; omega
        have hslh : ∀ w, (Instr.slice 9 (.string (bs (nm N h1))) (some (.int .i64 (st : Int))) none none).run Try.prog w = .ok (.string (bs b)) w := fun w => by
          rw [hst.out, slice_from w _ _ hpl, ← hb]; rfl
        have hfab : fn a = fn b := by rw [← hb]; exact (hgrp.out h1 (by omega) (by omega)).symm
        have hleab : le a b := by
          rw [← hb, ← ha.out]
          exact HR.out.le_rest CX.out.hN hll (by omega) (by omega)
        have K25 : Hid (∀ w, Calls Try.prog 25 #[.string (bs a), .string (bs b)] w fun e w' => (∃ p : Nat, e = .returned (.int .i64 p) ∧ Shared a b p) ∧ ∃ n, w' = w.drewN n) := fun w => shared_w (bs a) (bs b) w hasz hbsz hda.out hfab hleab
        replace hb := hid hb
        replace hh1 := hid hh1
        clear hpre hpl hfab hleab
        go_upto_region 23 with (go_at_call 25; refine (K25.out _).mono ?_; rintro e wy ⟨⟨p, rfl, hsh⟩, hdy⟩; replace hdy := hid hdy; have hpa : p ≤ a.length := hsh.1; have hslp := fun w => slice_to w a p hpa; replace hsh := hid hsh)
        have HS3 : Hid (S2 N C A w gt gl n gp P l0 hi en ss dd l gS cS gN cN gH cH m ks nv wy) := HS2.out.drew hdy.out
        obtain ⟨c, hc⟩ : ∃ c : St, c = ⟨(rest N P l).take p, l, h, P.length + p⟩ := ⟨_, rfl⟩
        have hclab : a.take p = c.lab := by rw [hc, ha.out]
        rw [hclab]
        have hlablen : c.lab.length = p := by rw [← hclab, List.length_take]; omega
        have K26 : Hid (∀ w, Calls Try.prog 26 #[.string (bs c.lab)] w fun e w' => (∃ z : Int, e = .returned (.tuple #[.int .u64 (hd c.lab), .int .i64 z])) ∧ w' = w) := fun w => firstHead_w (bs c.lab) w (by rw [bs_size]; omega)
        have hen : ((st : Int) + (p : Int)) = ((c.en : Nat) : Int) := by rw [hc, hst.out]; push_cast; rfl
        have hclo : l = c.lo := by rw [hc]
        have hchi : h = c.hi := by rw [hc]
        have HCL : Hid (c.lab.length = p) := hlablen
        have hmm : m ≤ 100000 := by
          have h1 := HS3.out.mem.len
          have h2 := HS3.out.grow.kids.le
          have h3 := HS3.out.grow.bh
          rw [List.length_append] at h1
          omega
        have hszl : (bs c.lab).size = p := hlablen
        have hpb : p ≤ 1048576 := by omega
        have hstb : st ≤ 1048576 := by
          have h1 := (HR.out.pre l hll hlh).1
          have h2 := congrArg List.length h1
          rw [List.length_append] at h2
          have h3 := CX.out.len l
          rw [hst.out]; omega
        have hws1 : IntKind.i64.wrap (st : Int) = (st : Int) := wrap_small _ (by omega) (by omega)
        have hws2 : IntKind.i64.wrap ((st : Int) + (p : Int)) = ((c.en : Nat) : Int) := by rw [wrap_small _ (by omega) (by omega)]; exact hen
        have O1 : Hid (wy.ownsRow w.heap.size 56 8 (.slice (some ⟨gN, 0, none⟩) m cN) m (nv.flatMap ndc)) := HS3.out.mem.nd
        have B1 : Hid (w.heap.size ≤ wy.heap.size) := HS3.out.below.size
        replace hc := hid hc
        replace hclo := hid hclo
        replace hchi := hid hchi
        replace hclab := hid hclab
        clear hen hlablen hslp hsl hslh K23 hNh hT02 hrow2 K25
        go_upto_region 24 with (go_at_call 26; refine keepW (K26.out _) ?_; rintro e ⟨z26, rfl⟩)
        clear K26
        go_upto_region 25 with (at_builtin; refine app_one rfl (.tmp 205) (.tmp 208) 44 rfl w.heap.size 56 _ 8 48 Try.underlying44 Try.info56 rfl (by decide) wy gN cN m (nv.flatMap ndc) (ndc (nvOf c Dy.zero 0)) rfl rfl rfl (ndc_one _) (by decide) O1.out B1.out hmm ?_; intro gN' cN' w1 o1 k1; replace o1 := hid o1; replace k1 := hid k1)
        have O2 : Hid (w1.ownsRow w.heap.size 41 1 (.slice (some ⟨gH, 0, none⟩) m cH) m ((ss ++ ks).flatMap hdc)) := own_kept HS3.out.mem.hd k1.out (own_ne HS3.out.mem.hd HS3.out.mem.nd (by decide))
        have B2 : Hid (w.heap.size ≤ w1.heap.size) := Nat.le_trans B1.out k1.out.size
        go_upto_region 26 with (at_builtin; refine app_one rfl (.tmp 210) (.tmp 212) 31 rfl w.heap.size 41 _ 1 8 Try.underlying31 Try.info41 rfl (by decide) w1 gH cH m ((ss ++ ks).flatMap hdc) (hdc c) rfl rfl rfl (hdc_one _) (by decide) O2.out B2.out hmm ?_; intro gH' cH' w2 o2 k2; replace o2 := hid o2; replace k2 := hid k2)
        have O3a : Hid (w1.ownsRow w.heap.size 64 3 (.slice (some ⟨gS, 0, none⟩) m cS) m ((ss ++ ks).flatMap spc)) := own_kept HS3.out.mem.sp k1.out (own_ne HS3.out.mem.sp HS3.out.mem.nd (by decide))
        have O3 : Hid (w2.ownsRow w.heap.size 64 3 (.slice (some ⟨gS, 0, none⟩) m cS) m ((ss ++ ks).flatMap spc)) := own_kept O3a.out k2.out (own_ne HS3.out.mem.sp HS3.out.mem.hd (by decide))
        have B3 : Hid (w.heap.size ≤ w2.heap.size) := Nat.le_trans B2.out k2.out.size
        have hT1 : w2.cell? ⟨gt, 1, none⟩ = some (.int .i64 0) := by
          refine CX.out.t1 w2 (HS3.out.below.trans ?_)
          have b1 : Below w.heap.size wy w1 := k1.out.below B1.out (fun k hk e => by have := (own_at O1.out).1; omega)
          have b2 : Below w.heap.size w1 w2 := k2.out.below B2.out (fun k hk e => by have := (own_at O2.out).1; omega)
          exact b1.trans b2
        go_upto_region 27 with (at_builtin; refine app_one rfl (.tmp 214) (.tmp 227) 62 rfl w.heap.size 64 _ 3 24 Try.underlying62 Try.info64 rfl (by decide) w2 gS cS m ((ss ++ ks).flatMap spc) [.int .i64 (l : Int), .int .i64 (h : Int), .int .i64 ((c.en : Nat) : Int)] rfl rfl rfl (by intro u hu; simp only [List.mem_cons, List.not_mem_nil, or_false] at hu; rcases hu with rfl | rfl | rfl <;> rfl) (by decide) O3.out B3.out hmm ?_; intro gS' cS' w3 o3 k3; replace o3 := hid o3; replace k3 := hid k3)
        have hnew : Hid (S2 N C A w gt gl n gp P l0 hi en ss dd h gS' cS' gN' cN' gH' cH' (m + 1) (ks ++ [c]) (nv ++ [nvOf c Dy.zero 0]) w3) := by
          refine HS3.out.step CX.out.hN HR.out hdl hlh2 hhh ?_ ?_ ?_ hc.out o1.out k1.out o2.out k2.out ?_ k3.out hs0
          · rw [ha.out]; exact hgrp.out
          · rw [ha.out]; exact hend.out
          · have e : h - 1 = h1 := by have := hh1.out; omega
            rw [e, ha.out, hb.out]; exact hsh.out
          · have := o3.out
            have e2 : spc c = [.int .i64 (l : Int), .int .i64 (h : Int), .int .i64 ((c.en : Nat) : Int)] := by unfold spc; rw [← hclo.out, ← hchi.out]
            rw [e2]; exact this
        clear o1 o2 o3 k1 k2 k3 O1 O2 O3 O3a
        go_wp2_with fail
        go_roundg (hi - h)
        case measure => omega
        case rel => exact ⟨gS', cS', gN', cN', gH', cH', m + 1, h, _, _, rfl, rfl, rfl, rfl, by omega, hnew.out⟩

end Go.Proofs.Qxb6600888a
