import Derived.Test.Qxb6600888aBl2
namespace Go.Proofs.Qxb6600888a
open Go.RowKit
set_option linter.unusedVariables false
set_option linter.unusedSimpArgs false

noncomputable def body1 : Code := ((Try.f17.body.map loops).getD []).getD 0 .skip

/-- The state in the outer loop: i nodes are done. -/
structure S1 (N : List Str) (C A : List Nat) (w : World) (i gS cS gN cN gH cH m : Nat) (ss : List St) (dd : List Dy) (nv : List Nv) (wx : World) : Prop where
  inv : Inv N C A i ss dd
  tab : Tab nv ss dd
  mem : M3 w.heap.size wx gS cS gN cN gH cH m ss nv
  below : Below w.heap.size w wx

/-- In the round, ahead of the inner loop: the node's own record stands as d; its span lies in block gp. -/
structure S1a (N : List Str) (w : World) (i gS cS gN cN gH cH m gp l0 hi en : Nat) (ss : List St) (dd : List Dy) (d : Dy) (nv : List Nv) (wx : World) : Prop where
  tab : Tab nv ss (dd ++ [d])
  mem : M3 w.heap.size wx gS cS gN cN gH cH m ss nv
  row : RowAt wx gp 64 #[.int .i64 l0, .int .i64 hi, .int .i64 en]
  ne : gp ≠ gS
  big : w.heap.size ≤ gp
  below : Below w.heap.size w wx
section
variable {N : List Str} {w : World} {i gS cS gN cN gH cH m gp l0 hi en : Nat} {ss : List St} {dd : List Dy} {d : Dy} {nv : List Nv} {wx wy : World}
theorem S1a.drew (h : S1a N w i gS cS gN cN gH cH m gp l0 hi en ss dd d nv wx) (k : Nat) : S1a N w i gS cS gN cN gH cH m gp l0 hi en ss dd d nv (wx.drewN k) := by
  have hb : Below wx.heap.size wx (wx.drewN k) := below_drewN (Below.refl _ _) _
  exact ⟨h.tab, h.mem.below hb, h.row.below hb h.row.lt, h.ne, h.big, h.below.trans (hb.mono h.below.size)⟩
theorem S1a.gpN (h : S1a N w i gS cS gN cN gH cH m gp l0 hi en ss dd d nv wx) : gp ≠ gN := by
  rintro rfl
  obtain ⟨_, cur, h1, _⟩ := own_at h.mem.nd
  rw [h.row] at h1
  cases h1
theorem S1a.at (h : S1a N w i gS cS gN cN gH cH m gp l0 hi en ss dd d nv wx) {s : St} (hs : ss[dd.length]? = some s) {f : Nat} (hf : f < 8) : wx.cell? ⟨gN, dd.length * 8 + f, none⟩ = (ndc (nvOf s d 0))[f]? :=
  h.mem.ndCell (h.tab.at hs) (by rw [h.tab.1]; exact h.mem.len) hf
theorem S1a.frozen (h : S1a N w i gS cS gN cN gH cH m gp l0 hi en ss dd d nv wx) (j : Nat) : wx.frozen? ⟨gN, j, none⟩ = false := h.mem.nd.frozenAt j
theorem S1a.store (h : S1a N w i gS cS gN cN gH cH m gp l0 hi en ss dd d nv wx) {s : St} (hs : ss[dd.length]? = some s) {f : Nat} (hf : f < 8) (u : Value) (d' : Dy) (he : ndc (nvOf s d' 0) = (ndc (nvOf s d 0)).set f u) :
    S1a N w i gS cS gN cN gH cH m gp l0 hi en ss dd d' (nv.set dd.length (nvOf s d' 0)) (wx.setCell ⟨gN, dd.length * 8 + f, none⟩ u) :=
  ⟨h.tab.set hs d', h.mem.store (h.tab.at hs) u hf he, h.row.setOther h.gpN _ _, h.ne, h.big, h.below.setCell ((own_at h.mem.nd).1) _⟩
end

theorem S1.start {N : List Str} {C A : List Nat} {w : World} {i gS cS gN cN gH cH m : Nat} {ss : List St} {dd : List Dy} {nv : List Nv} {wx : World} (h : S1 N C A w i gS cS gN cN gH cH m ss dd nv wx) (l0 hi en : Nat) :
    S1a N w i gS cS gN cN gH cH m wx.heap.size l0 hi en ss dd Dy.zero nv (wx.alloc (.cells #[.int .i64 l0, .int .i64 hi, .int .i64 en] 64)) :=
  ⟨h.tab.zero, h.mem.below ((Below.refl _ _).alloc (Nat.le_refl _) _), RowAt.new _ _ _, fun e => by have := own_lt h.mem.sp; omega, h.below.size, h.below.alloc h.below.size _⟩

def dyOf (N : List Str) (C A : List Nat) (s : St) : Dy :=
  if isDfn N s then ⟨0, 0, true, C.getD s.lo 0, if C.getD s.lo 0 = 2147483648 then A.getD s.lo 0 else C.getD s.lo 0, A.getD s.lo 0⟩ else Dy.zero

section
variable {N : List Str} {w : World} {i gS cS gN cN gH cH m gp l0 hi en : Nat} {ss : List St} {dd : List Dy} {d : Dy} {nv : List Nv} {wx wy : World}
theorem S1a.at' (h : S1a N w i gS cS gN cN gH cH m gp l0 hi en ss dd d nv wx) (hil : dd.length = i) {s : St} (hs : ss[i]? = some s) {f : Nat} (hf : f < 8) : wx.cell? ⟨gN, i * 8 + f, none⟩ = (ndc (nvOf s d 0))[f]? := by
  subst hil; exact h.at hs hf
theorem S1a.store' (h : S1a N w i gS cS gN cN gH cH m gp l0 hi en ss dd d nv wx) (hil : dd.length = i) {s : St} (hs : ss[i]? = some s) {f : Nat} (hf : f < 8) (u : Value) (d' : Dy) (he : ndc (nvOf s d' 0) = (ndc (nvOf s d 0)).set f u) :
    S1a N w i gS cS gN cN gH cH m gp l0 hi en ss dd d' (nv.set i (nvOf s d' 0)) (wx.setCell ⟨gN, i * 8 + f, none⟩ u) := by
  subst hil; exact h.store hs hf u d' he
theorem S1a.setLo (h : S1a N w i gS cS gN cN gH cH m gp l0 hi en ss dd d nv wx) (l1 : Nat) : S1a N w i gS cS gN cN gH cH m gp l1 hi en ss dd d nv (wx.setCell ⟨gp, 0, none⟩ (.int .i64 l1)) := by
  have hk : Kept (· = gp) wx (wx.setCell ⟨gp, 0, none⟩ (.int .i64 l1)) := Kept.set wx gp 0 _ rfl
  have hH : gH ≠ gp := by
    rintro rfl
    obtain ⟨_, cur, h1, _⟩ := own_at h.mem.hd
    rw [h.row] at h1
    cases h1
  exact ⟨h.tab, ⟨h.mem.len, own_kept h.mem.sp hk h.ne.symm, own_kept h.mem.nd hk h.gpN.symm, own_kept h.mem.hd hk hH⟩, h.row.set 0 _, h.ne, h.big, h.below.setCell h.big _⟩
end

theorem S1a.inner {N : List Str} {C A : List Nat} {w : World} {gt gl n : Nat} {i gS cS gN cN gH cH m gp l0 hi en : Nat} {ss : List St} {dd : List Dy} {d : Dy} {nv : List Nv} {wx : World} {P : Str}
    (h : S1a N w i gS cS gN cN gH cH m gp l0 hi en ss dd d nv wx) (hle : l0 ≤ hi) : S2 N C A w gt gl n gp P l0 hi en ss (dd ++ [d]) l0 gS cS gN cN gH cH m [] nv wx := by
  have e : ss ++ [] = ss := List.append_nil ss
  exact ⟨Grow.start hle, by rw [e]; exact h.tab, by rw [e]; exact h.mem, h.row, h.ne, h.below⟩

/-- The round's end in memory: the count is laid. -/
theorem S2.finish {N : List Str} {C A : List Nat} {w : World} {gt gl n gp : Nat} {i gS0 cS0 gN0 cN0 gH0 cH0 m0 : Nat} {ss : List St} {dd : List Dy} {nv0 : List Nv} {w0 wx : World} {s : St} {d : Dy}
    (hN : Names N) (h1 : S1 N C A w i gS0 cS0 gN0 cN0 gH0 cH0 m0 ss dd nv0 w0) (hs : ss[i]? = some s) {gS cS gN cN gH cH m : Nat} {ks : List St} {nv : List Nv} {en : Nat}
    (h : S2 N C A w gt gl n gp (pre N i s) (lo' N s) s.hi en ss (dd ++ [d]) s.hi gS cS gN cN gH cH m ks nv wx) (hd : d = ⟨ss.length, 0, (dyOf N C A s).dfn, (dyOf N C A s).cat, (dyOf N C A s).own, (dyOf N C A s).all⟩) :
    ∃ dd' nv', S1 N C A w (i + 1) gS cS gN cN gH cH m (ss ++ ks) dd' nv' (wx.setCell ⟨gN, i * 8 + 2, none⟩ (.int .i32 (ks.length : Nat))) := by
  have hil := h1.inv.len
  have hs2 : (ss ++ ks)[dd.length]? = some s := by
    rw [hil, List.getElem?_append_left (List.getElem?_eq_some_iff.1 hs).1]; exact hs
  have hat := h.tab.at hs2
  rw [hil] at hat
  refine ⟨dd ++ [⟨ss.length, ks.length, (dyOf N C A s).dfn, (dyOf N C A s).cat, (dyOf N C A s).own, (dyOf N C A s).all⟩], _, ?_, ?_, h.mem.store (k := i) (f := 2) hat (.int .i32 (ks.length : Nat)) (by omega) (v' := nvOf s ⟨ss.length, ks.length, (dyOf N C A s).dfn, (dyOf N C A s).cat, (dyOf N C A s).own, (dyOf N C A s).all⟩ 0) (by rw [hd]; rfl), h.below.setCell ((own_at h.mem.nd).1) _⟩
  · refine h1.inv.step hN hs h.grow rfl rfl ?_ ?_ ?_
    · unfold dyOf; cases isDfn N s <;> rfl
    · unfold dyOf
      cases hdf : isDfn N s with
      | false => intro hh; cases hh
      | true => intro _; exact ⟨rfl, rfl, rfl⟩
    · unfold dyOf
      cases hdf : isDfn N s with
      | false => intro _; exact ⟨rfl, rfl, rfl⟩
      | true => intro hh; cases hh
  · have := h.tab.set hs2 ⟨ss.length, ks.length, (dyOf N C A s).dfn, (dyOf N C A s).cat, (dyOf N C A s).own, (dyOf N C A s).all⟩
    rw [hil] at this
    exact this

set_option maxHeartbeats 8000000 in
set_option maxRecDepth 1000000 in
theorem L1 {N : List Str} {C A : List Nat} {w : World} {gt gl n : Nat} (cx : Cx N C A w gt gl n)
    {gS cS gN cN gH cH m : Nat} {nv : List Nv} (wr : World) (h0 : S1 N C A w 0 gS cS gN cN gH cH m [rootSt N] [] nv wr)
    (K : Act → World → Prop) (Rr : Ending → World → Prop) (u1 u6 u7 u8 u9 u10 u11 u12 u13 u14 u15 u16 u17 u18 u19 u20 u21 u22 u23 u24 u25 u26 u27 u28 u29 u30 u31 u32 u33 u34 u35 u36 u37 u38 u39 u40 u41 u42 u43 u44 u45 u46 u47 u48 u49 u50 u51 u52 u53 u54 u55 u56 u57 u58 u59 u60 u61 u62 u63 u64 u65 u66 u67 u68 u69 u70 u71 u72 u73 u74 u75 u76 u77 u78 u79 u80 u81 u82 u83 u84 u85 u86 u87 u88 u89 u90 u91 u92 u93 u94 u95 u96 u97 u98 u99 u100 u101 u102 u103 u104 u105 u106 u107 u108 u109 u110 u111 u112 u113 u114 u115 u116 u117 u118 u119 u120 u121 u122 u123 u124 u125 u126 u127 u128 u129 u130 u131 u132 u133 u134 u135 u136 u137 u138 u139 u140 u141 u142 u143 u144 u145 u146 u147 u148 u149 u150 u151 u152 u153 u154 u155 u156 u157 u158 u159 u160 u161 u162 u163 u164 u165 u166 u167 u168 u169 u170 u171 u172 u173 u174 u175 u176 u177 u178 u179 u180 u181 u182 u183 u184 u185 u186 u187 u188 u189 u190 u191 u192 u193 u194 u195 u196 u197 u198 u199 u200 u201 u202 u203 u204 u205 u206 u207 u208 u209 u210 u211 u212 u213 u214 u215 u216 u217 u218 u219 u220 u221 u222 u223 u224 u225 u226 u227 u228 u229 u230 u231 u232 u233 u234 u235 u236 u237 u238 u239 u240 u241 u242 u243 u244 u245 u246 u247 u248 u249 u250 u251 u252 u253 u254 u255 u256 u257 u258 u259 u260 u261 u262 u263 u264 u265 u266 u267 u268 u269 u270 u271 u272 u273 u274 u275 u276 u277 u278 u279 u280 u281 u282 u283 u284 u285 u286 u287 u288 u289 u290 u291 u292 u293 : Value)
    (hexit : ∀ (x6 x7 x8 x9 x10 x11 x12 x13 x14 x15 x16 x17 x51 x52 x53 x54 x55 x56 x57 x58 x59 x60 x61 x62 x63 x64 x65 x66 x67 x68 x69 x70 x71 x72 x73 x74 x75 x76 x77 x78 x79 x80 x81 x82 x83 x84 x85 x86 x87 x88 x89 x90 x91 x92 x93 x94 x95 x96 x97 x98 x99 x100 x101 x102 x103 x104 x105 x106 x107 x108 x109 x110 x111 x112 x113 x114 x115 x116 x117 x118 x119 x120 x121 x122 x123 x124 x125 x126 x127 x128 x129 x130 x131 x132 x133 x134 x135 x136 x137 x138 x139 x140 x141 x142 x143 x144 x145 x146 x147 x148 x149 x150 x151 x152 x153 x154 x155 x156 x157 x158 x159 x160 x161 x162 x163 x164 x165 x166 x167 x168 x169 x170 x171 x172 x173 x174 x175 x176 x177 x178 x179 x180 x181 x182 x183 x184 x185 x186 x187 x188 x189 x190 x191 x192 x193 x194 x195 x196 x197 x198 x199 x200 x201 x202 x203 x204 x205 x206 x207 x208 x209 x210 x211 x212 x213 x214 x215 x216 x217 x218 x219 x220 x221 x222 x223 x224 x225 x226 x227 x228 x229 x230 x231 x232 x233 x234 x235 x236 x237 x238 x239 x240 x241 x242 : Value) (gS' cS' gN' cN' gH' cH' m' : Nat) (ss : List St) (dd : List Dy) (nv' : List Nv) (wz : World), S1 N C A w m' gS' cS' gN' cN' gH' cH' m' ss dd nv' wz → K ⟨List.toArray ((Value.pointer (some ⟨gt, 0, none⟩)) :: u1 :: (Value.slice (some ⟨gS', 0, none⟩) m' cS') :: (Value.slice (some ⟨gN', 0, none⟩) m' cN') :: (Value.slice (some ⟨gH', 0, none⟩) m' cH') :: (Value.int .i64 (m' : Int)) :: x6 :: x7 :: x8 :: x9 :: x10 :: x11 :: x12 :: x13 :: x14 :: x15 :: x16 :: x17 :: u18 :: u19 :: u20 :: u21 :: u22 :: u23 :: u24 :: u25 :: u26 :: u27 :: u28 :: u29 :: u30 :: u31 :: u32 :: u33 :: u34 :: u35 :: u36 :: u37 :: u38 :: u39 :: u40 :: u41 :: u42 :: u43 :: u44 :: u45 :: u46 :: u47 :: u48 :: u49 :: u50 :: x51 :: x52 :: x53 :: x54 :: x55 :: x56 :: x57 :: x58 :: x59 :: x60 :: x61 :: x62 :: x63 :: x64 :: x65 :: x66 :: x67 :: x68 :: x69 :: x70 :: x71 :: x72 :: x73 :: x74 :: x75 :: x76 :: x77 :: x78 :: x79 :: x80 :: x81 :: x82 :: x83 :: x84 :: x85 :: x86 :: x87 :: x88 :: x89 :: x90 :: x91 :: x92 :: x93 :: x94 :: x95 :: x96 :: x97 :: x98 :: x99 :: x100 :: x101 :: x102 :: x103 :: x104 :: x105 :: x106 :: x107 :: x108 :: x109 :: x110 :: x111 :: x112 :: x113 :: x114 :: x115 :: x116 :: x117 :: x118 :: x119 :: x120 :: x121 :: x122 :: x123 :: x124 :: x125 :: x126 :: x127 :: x128 :: x129 :: x130 :: x131 :: x132 :: x133 :: x134 :: x135 :: x136 :: x137 :: x138 :: x139 :: x140 :: x141 :: x142 :: x143 :: x144 :: x145 :: x146 :: x147 :: x148 :: x149 :: x150 :: x151 :: x152 :: x153 :: x154 :: x155 :: x156 :: x157 :: x158 :: x159 :: x160 :: x161 :: x162 :: x163 :: x164 :: x165 :: x166 :: x167 :: x168 :: x169 :: x170 :: x171 :: x172 :: x173 :: x174 :: x175 :: x176 :: x177 :: x178 :: x179 :: x180 :: x181 :: x182 :: x183 :: x184 :: x185 :: x186 :: x187 :: x188 :: x189 :: x190 :: x191 :: x192 :: x193 :: x194 :: x195 :: x196 :: x197 :: x198 :: x199 :: x200 :: x201 :: x202 :: x203 :: x204 :: x205 :: x206 :: x207 :: x208 :: x209 :: x210 :: x211 :: x212 :: x213 :: x214 :: x215 :: x216 :: x217 :: x218 :: x219 :: x220 :: x221 :: x222 :: x223 :: x224 :: x225 :: x226 :: x227 :: x228 :: x229 :: x230 :: x231 :: x232 :: x233 :: x234 :: x235 :: x236 :: x237 :: x238 :: x239 :: x240 :: x241 :: x242 :: u243 :: u244 :: u245 :: u246 :: u247 :: u248 :: u249 :: u250 :: u251 :: u252 :: u253 :: u254 :: u255 :: u256 :: u257 :: u258 :: u259 :: u260 :: u261 :: u262 :: u263 :: u264 :: u265 :: u266 :: u267 :: u268 :: u269 :: u270 :: u271 :: u272 :: u273 :: u274 :: u275 :: u276 :: u277 :: u278 :: u279 :: u280 :: u281 :: u282 :: u283 :: u284 :: u285 :: u286 :: u287 :: u288 :: u289 :: u290 :: u291 :: u292 :: u293 :: []), []⟩ wz) :
    Code.wp Try.prog (Code.loop body1) (Exit.inBlock 0 (Exit.then K (bodyPost Try.prog Try.f17 Rr))) ⟨List.toArray ((Value.pointer (some ⟨gt, 0, none⟩)) :: u1 :: (Value.slice (some ⟨gS, 0, none⟩) m cS) :: (Value.slice (some ⟨gN, 0, none⟩) m cN) :: (Value.slice (some ⟨gH, 0, none⟩) m cH) :: (Value.int .i64 (0 : Int)) :: u6 :: u7 :: u8 :: u9 :: u10 :: u11 :: u12 :: u13 :: u14 :: u15 :: u16 :: u17 :: u18 :: u19 :: u20 :: u21 :: u22 :: u23 :: u24 :: u25 :: u26 :: u27 :: u28 :: u29 :: u30 :: u31 :: u32 :: u33 :: u34 :: u35 :: u36 :: u37 :: u38 :: u39 :: u40 :: u41 :: u42 :: u43 :: u44 :: u45 :: u46 :: u47 :: u48 :: u49 :: u50 :: u51 :: u52 :: u53 :: u54 :: u55 :: u56 :: u57 :: u58 :: u59 :: u60 :: u61 :: u62 :: u63 :: u64 :: u65 :: u66 :: u67 :: u68 :: u69 :: u70 :: u71 :: u72 :: u73 :: u74 :: u75 :: u76 :: u77 :: u78 :: u79 :: u80 :: u81 :: u82 :: u83 :: u84 :: u85 :: u86 :: u87 :: u88 :: u89 :: u90 :: u91 :: u92 :: u93 :: u94 :: u95 :: u96 :: u97 :: u98 :: u99 :: u100 :: u101 :: u102 :: u103 :: u104 :: u105 :: u106 :: u107 :: u108 :: u109 :: u110 :: u111 :: u112 :: u113 :: u114 :: u115 :: u116 :: u117 :: u118 :: u119 :: u120 :: u121 :: u122 :: u123 :: u124 :: u125 :: u126 :: u127 :: u128 :: u129 :: u130 :: u131 :: u132 :: u133 :: u134 :: u135 :: u136 :: u137 :: u138 :: u139 :: u140 :: u141 :: u142 :: u143 :: u144 :: u145 :: u146 :: u147 :: u148 :: u149 :: u150 :: u151 :: u152 :: u153 :: u154 :: u155 :: u156 :: u157 :: u158 :: u159 :: u160 :: u161 :: u162 :: u163 :: u164 :: u165 :: u166 :: u167 :: u168 :: u169 :: u170 :: u171 :: u172 :: u173 :: u174 :: u175 :: u176 :: u177 :: u178 :: u179 :: u180 :: u181 :: u182 :: u183 :: u184 :: u185 :: u186 :: u187 :: u188 :: u189 :: u190 :: u191 :: u192 :: u193 :: u194 :: u195 :: u196 :: u197 :: u198 :: u199 :: u200 :: u201 :: u202 :: u203 :: u204 :: u205 :: u206 :: u207 :: u208 :: u209 :: u210 :: u211 :: u212 :: u213 :: u214 :: u215 :: u216 :: u217 :: u218 :: u219 :: u220 :: u221 :: u222 :: u223 :: u224 :: u225 :: u226 :: u227 :: u228 :: u229 :: u230 :: u231 :: u232 :: u233 :: u234 :: u235 :: u236 :: u237 :: u238 :: u239 :: u240 :: u241 :: u242 :: u243 :: u244 :: u245 :: u246 :: u247 :: u248 :: u249 :: u250 :: u251 :: u252 :: u253 :: u254 :: u255 :: u256 :: u257 :: u258 :: u259 :: u260 :: u261 :: u262 :: u263 :: u264 :: u265 :: u266 :: u267 :: u268 :: u269 :: u270 :: u271 :: u272 :: u273 :: u274 :: u275 :: u276 :: u277 :: u278 :: u279 :: u280 :: u281 :: u282 :: u283 :: u284 :: u285 :: u286 :: u287 :: u288 :: u289 :: u290 :: u291 :: u292 :: u293 :: []), []⟩ wr := by
  have CX : Hid (Cx N C A w gt gl n) := cx
  have H0 : Hid (S1 N C A w 0 gS cS gN cN gH cH m [rootSt N] [] nv wr) := h0
  have hn4 := cx.hn4
  have HEX : Hid (∀ (x6 x7 x8 x9 x10 x11 x12 x13 x14 x15 x16 x17 x51 x52 x53 x54 x55 x56 x57 x58 x59 x60 x61 x62 x63 x64 x65 x66 x67 x68 x69 x70 x71 x72 x73 x74 x75 x76 x77 x78 x79 x80 x81 x82 x83 x84 x85 x86 x87 x88 x89 x90 x91 x92 x93 x94 x95 x96 x97 x98 x99 x100 x101 x102 x103 x104 x105 x106 x107 x108 x109 x110 x111 x112 x113 x114 x115 x116 x117 x118 x119 x120 x121 x122 x123 x124 x125 x126 x127 x128 x129 x130 x131 x132 x133 x134 x135 x136 x137 x138 x139 x140 x141 x142 x143 x144 x145 x146 x147 x148 x149 x150 x151 x152 x153 x154 x155 x156 x157 x158 x159 x160 x161 x162 x163 x164 x165 x166 x167 x168 x169 x170 x171 x172 x173 x174 x175 x176 x177 x178 x179 x180 x181 x182 x183 x184 x185 x186 x187 x188 x189 x190 x191 x192 x193 x194 x195 x196 x197 x198 x199 x200 x201 x202 x203 x204 x205 x206 x207 x208 x209 x210 x211 x212 x213 x214 x215 x216 x217 x218 x219 x220 x221 x222 x223 x224 x225 x226 x227 x228 x229 x230 x231 x232 x233 x234 x235 x236 x237 x238 x239 x240 x241 x242 : Value) (gS' cS' gN' cN' gH' cH' m' : Nat) (ss : List St) (dd : List Dy) (nv' : List Nv) (wz : World), S1 N C A w m' gS' cS' gN' cN' gH' cH' m' ss dd nv' wz → K ⟨List.toArray ((Value.pointer (some ⟨gt, 0, none⟩)) :: u1 :: (Value.slice (some ⟨gS', 0, none⟩) m' cS') :: (Value.slice (some ⟨gN', 0, none⟩) m' cN') :: (Value.slice (some ⟨gH', 0, none⟩) m' cH') :: (Value.int .i64 (m' : Int)) :: x6 :: x7 :: x8 :: x9 :: x10 :: x11 :: x12 :: x13 :: x14 :: x15 :: x16 :: x17 :: u18 :: u19 :: u20 :: u21 :: u22 :: u23 :: u24 :: u25 :: u26 :: u27 :: u28 :: u29 :: u30 :: u31 :: u32 :: u33 :: u34 :: u35 :: u36 :: u37 :: u38 :: u39 :: u40 :: u41 :: u42 :: u43 :: u44 :: u45 :: u46 :: u47 :: u48 :: u49 :: u50 :: x51 :: x52 :: x53 :: x54 :: x55 :: x56 :: x57 :: x58 :: x59 :: x60 :: x61 :: x62 :: x63 :: x64 :: x65 :: x66 :: x67 :: x68 :: x69 :: x70 :: x71 :: x72 :: x73 :: x74 :: x75 :: x76 :: x77 :: x78 :: x79 :: x80 :: x81 :: x82 :: x83 :: x84 :: x85 :: x86 :: x87 :: x88 :: x89 :: x90 :: x91 :: x92 :: x93 :: x94 :: x95 :: x96 :: x97 :: x98 :: x99 :: x100 :: x101 :: x102 :: x103 :: x104 :: x105 :: x106 :: x107 :: x108 :: x109 :: x110 :: x111 :: x112 :: x113 :: x114 :: x115 :: x116 :: x117 :: x118 :: x119 :: x120 :: x121 :: x122 :: x123 :: x124 :: x125 :: x126 :: x127 :: x128 :: x129 :: x130 :: x131 :: x132 :: x133 :: x134 :: x135 :: x136 :: x137 :: x138 :: x139 :: x140 :: x141 :: x142 :: x143 :: x144 :: x145 :: x146 :: x147 :: x148 :: x149 :: x150 :: x151 :: x152 :: x153 :: x154 :: x155 :: x156 :: x157 :: x158 :: x159 :: x160 :: x161 :: x162 :: x163 :: x164 :: x165 :: x166 :: x167 :: x168 :: x169 :: x170 :: x171 :: x172 :: x173 :: x174 :: x175 :: x176 :: x177 :: x178 :: x179 :: x180 :: x181 :: x182 :: x183 :: x184 :: x185 :: x186 :: x187 :: x188 :: x189 :: x190 :: x191 :: x192 :: x193 :: x194 :: x195 :: x196 :: x197 :: x198 :: x199 :: x200 :: x201 :: x202 :: x203 :: x204 :: x205 :: x206 :: x207 :: x208 :: x209 :: x210 :: x211 :: x212 :: x213 :: x214 :: x215 :: x216 :: x217 :: x218 :: x219 :: x220 :: x221 :: x222 :: x223 :: x224 :: x225 :: x226 :: x227 :: x228 :: x229 :: x230 :: x231 :: x232 :: x233 :: x234 :: x235 :: x236 :: x237 :: x238 :: x239 :: x240 :: x241 :: x242 :: u243 :: u244 :: u245 :: u246 :: u247 :: u248 :: u249 :: u250 :: u251 :: u252 :: u253 :: u254 :: u255 :: u256 :: u257 :: u258 :: u259 :: u260 :: u261 :: u262 :: u263 :: u264 :: u265 :: u266 :: u267 :: u268 :: u269 :: u270 :: u271 :: u272 :: u273 :: u274 :: u275 :: u276 :: u277 :: u278 :: u279 :: u280 :: u281 :: u282 :: u283 :: u284 :: u285 :: u286 :: u287 :: u288 :: u289 :: u290 :: u291 :: u292 :: u293 :: []), []⟩ wz) := hexit
  clear cx h0 hexit
  conv => arg 2; arg 1; whnf
  go_loopg [2, 3, 4, 5] (2 * n + 1) (fun g v2 v3 v4 v5 wx => ∃ (gS cS gN cN gH cH m i : Nat) (ss : List St) (dd : List Dy) (nv : List Nv), v2 = .slice (some ⟨gS, 0, none⟩) m cS ∧ v3 = .slice (some ⟨gN, 0, none⟩) m cN ∧ v4 = .slice (some ⟨gH, 0, none⟩) m cH ∧ v5 = .int .i64 (i : Int) ∧ i + g = 2 * n + 1 ∧ S1 N C A w i gS cS gN cN gH cH m ss dd nv wx)
  case atStart => exact ⟨gS, cS, gN, cN, gH, cH, m, 0, _, _, nv, rfl, rfl, rfl, rfl, by omega, H0.out⟩
  case round =>
    obtain ⟨gS, cS, gN, cN, gH, cH, m, i, ss, dd, nv, rfl, rfl, rfl, rfl, hig, hS⟩ := hrel
    have HS : Hid (S1 N C A w i gS cS gN cN gH cH m ss dd nv wr) := hS
    have hlen : Hid (ss.length = m) := hS.mem.len
    have hsm : m ≤ 2 * n + 1 := by have := hS.inv.small; have := hS.mem.len; have := CX.out.hn; omega
    have him : i ≤ m := by have := hS.inv.le; have := hS.mem.len; omega
    clear hS
    by_cases hlt : i < m
    · have hlti : (i : Int) < (m : Int) := by omega
      have hi00 : (0 : Int) ≤ (i : Int) := by omega
      obtain ⟨s, hs⟩ : ∃ s, ss[i]? = some s := ⟨ss[i]'(by rw [hlen.out]; exact hlt), List.getElem?_eq_getElem _⟩
      have hc0 : wr.cell? ⟨gS, i * 3, none⟩ = some (.int .i64 s.lo) := HS.out.mem.spCell (f := 0) hs (by omega)
      have hc1 : wr.cell? ⟨gS, i * 3 + 1, none⟩ = some (.int .i64 s.hi) := HS.out.mem.spCell (f := 1) hs (by omega)
      have hc2 : wr.cell? ⟨gS, i * 3 + 2, none⟩ = some (.int .i64 s.en) := HS.out.mem.spCell (f := 2) hs (by omega)
      replace hs := hid hs
      go_upto_region 7 with fail
      refine at_world (fun wx => S1a N w i gS cS gN cN gH cH m wr.heap.size s.lo s.hi s.en ss dd Dy.zero nv wx) (HS.out.start _ _ _) ?_
      intro wa HA
      have hii : Hid (dd.length = i) := HS.out.inv.len
      have hroot : Hid (i = 0 → s = rootSt N) := fun h => by subst h; have := HS.out.inv.root; rw [hs.out] at this; exact Option.some.inj this
      have hgood : Hid (0 < i → Good N s) := fun h => HS.out.inv.good i s h hs.out
      have hrg : Hid (Range N (pre N i s) (lo' N s) s.hi) := range_of CX.out.hN hroot.out hgood.out
      have hhn : s.hi ≤ n := by have := hrg.out.hin; have := CX.out.hn; omega
      have hgpl : Hid (wr.heap.size = wr.heap.size) := rfl
      generalize wr.heap.size = gp at HA hgpl ⊢
      clear hc0 hc1 hc2 hgpl
      have hp0 : wa.cell? ⟨gp, 0, none⟩ = some (.int .i64 s.lo) := HA.row.cell 0
      have hp1 : wa.cell? ⟨gp, 1, none⟩ = some (.int .i64 s.hi) := HA.row.cell 1
      have hp2 : wa.cell? ⟨gp, 2, none⟩ = some (.int .i64 s.en) := HA.row.cell 2
      have ht0 := CX.out.t0 wa HA.below
      have ht1 := CX.out.t1 wa HA.below
      replace HA := hid HA
      have hlo0 : (0 : Int) ≤ (s.lo : Int) := by omega
      go_cut [85] from 61 to 85 (fun t wx => t = .bool (isDfn N s) ∧ S1a N w i gS cS gN cN gH cH m gp s.lo s.hi s.en ss dd Dy.zero nv wx)
      case first =>
        by_cases hlh : s.lo < s.hi
        · have hlhi : (s.lo : Int) < (s.hi : Int) := by omega
          have hd1 : decide (s.lo < s.hi) = true := decide_eq_true hlh
          have hln : s.lo < n := by omega
          have hlni : (s.lo : Int) < (n : Int) := by omega
          have hNl : wa.cell? ⟨gl, s.lo * 5, none⟩ = some (.string (bs (nm N s.lo))) := CX.out.l wa HA.out.below s.lo hln 0 (by omega)
          have hL := CX.out.len s.lo
          have hsz : (bs (nm N s.lo)).size = (nm N s.lo).length := rfl
          have hdf : Hid (isDfn N s = decide ((nm N s.lo).length = s.en)) := by show _ = _; unfold isDfn; rw [hd1]; rfl
          generalize (nm N s.lo).length = L at *
          generalize bs (nm N s.lo) = bb at *
          have hwL : IntKind.i64.wrap (L : Int) = (L : Int) := wrap_small _ (by omega) (by omega)
          by_cases hLe : L = s.en
          · have hb1 : ((L : Int) == (s.en : Int)) = true := beq_iff_eq.2 (by omega)
            have hres : Hid (true = isDfn N s) := by show _ = _; rw [hdf.out, decide_eq_true hLe]
            clear hLe
            go_quiet (fail)
            go_wp2_with fail
            go_meet
            case rel => exact ⟨by rw [← hres.out], HA.out.drew _⟩
          · have hb1 : ((L : Int) == (s.en : Int)) = false := beq_eq_false_iff_ne.2 (by omega)
            have hres : Hid (false = isDfn N s) := by show _ = _; rw [hdf.out, decide_eq_false hLe]
            clear hLe
            go_quiet (fail)
            go_wp2_with fail
            go_meet
            case rel => exact ⟨by rw [← hres.out], HA.out.drew _⟩
        · have hd1 : decide (s.lo < s.hi) = false := decide_eq_false hlh
          have hres : Hid (false = isDfn N s) := by show _ = _; unfold isDfn; rw [hd1]; rfl
          clear hlh
          go_quiet (fail)
          go_wp2_with fail
          go_meet
          case rel => exact ⟨by rw [← hres.out], HA.out.drew _⟩
      case rest =>
        obtain ⟨rfl, HB⟩ := hcut
        replace HB := hid HB
        clear HA hp0 hp1 hp2 ht0 ht1
        go_upto_if 85 with fail
        go_cut [7] from 85 to 122 (fun _ wx => ∃ nv', S1a N w i gS cS gN cN gH cH m gp (lo' N s) s.hi s.en ss dd (dyOf N C A s) nv' wx)
        case first =>
          cases hd : isDfn N s with
          | false =>
            have hl0 : Hid (lo' N s = s.lo) := by show _ = _; unfold lo'; rw [hd]; rfl
            have hdy : Hid (dyOf N C A s = Dy.zero) := by show _ = _; unfold dyOf; rw [hd]; rfl
            clear hd
            go_wp2_with fail
            go_meet
            case rel => exact ⟨nv, by rw [hl0.out, hdy.out]; exact HB.out⟩
          | true =>
            have hl0 : Hid (lo' N s = s.lo + 1) := by show _ = _; unfold lo'; rw [hd]; rfl
            obtain ⟨cc, hcc⟩ : ∃ cc, C.getD s.lo 0 = cc := ⟨_, rfl⟩
            obtain ⟨aa, haa⟩ : ∃ aa, A.getD s.lo 0 = aa := ⟨_, rfl⟩
            obtain ⟨oo, hoo⟩ : ∃ oo : Nat, (if cc = 2147483648 then aa else cc) = oo := ⟨_, rfl⟩
            have hdy : Hid (dyOf N C A s = ⟨0, 0, true, cc, oo, aa⟩) := by show _ = _; unfold dyOf; rw [hd, hcc, haa, hoo]; rfl
            have hlh : s.lo < s.hi := by
              unfold isDfn at hd
              simp only [Bool.and_eq_true, decide_eq_true_eq] at hd
              exact hd.1
            have hln : s.lo < n := by omega
            have hlni : (s.lo : Int) < (n : Int) := by omega
            clear hd
            have hp0 : wc.cell? ⟨gp, 0, none⟩ = some (.int .i64 s.lo) := HB.out.row.cell 0
            have ht0 := CX.out.t0 wc HB.out.below
            go_wp2_with fail
            go_quiet (fail)
            go_upto_region 9 with fail
            refine at_world (fun wx => S1a N w i gS cS gN cN gH cH m gp s.lo s.hi s.en ss dd Dy.zero nv wx) (HB.out.drew _) ?_
            intro wd HD
            clear hp0 ht0 HB
            have hl2 : wd.cell? ⟨gl, s.lo * 5 + 2, none⟩ = some (.int .u32 (cc : Int)) := by
              have := CX.out.l wd HD.below s.lo hln 2 (by omega)
              rw [this]; show some (Value.int .u32 ((C.getD s.lo 0 : Nat) : Int)) = _; rw [hcc]
            have hl4 : wd.cell? ⟨gl, s.lo * 5 + 4, none⟩ = some (.int .u32 (aa : Int)) := by
              have := CX.out.l wd HD.below s.lo hln 4 (by omega)
              rw [this]; show some (Value.int .u32 ((A.getD s.lo 0 : Nat) : Int)) = _; rw [haa]
            have hn3 : wd.cell? ⟨gN, i * 8 + 3, none⟩ = some (.bool false) := HD.at' hii.out hs.out (f := 3) (by omega)
            have hn4' : wd.cell? ⟨gN, i * 8 + 4, none⟩ = some (.int .u32 0) := HD.at' hii.out hs.out (f := 4) (by omega)
            have hn5 : wd.cell? ⟨gN, i * 8 + 5, none⟩ = some (.int .u32 0) := HD.at' hii.out hs.out (f := 5) (by omega)
            have hn6 : wd.cell? ⟨gN, i * 8 + 6, none⟩ = some (.int .u32 0) := HD.at' hii.out hs.out (f := 6) (by omega)
            have hfz : ∀ j, wd.frozen? ⟨gN, j, none⟩ = false := HD.frozen
            have K22 : Hid (Calls Try.prog 22 #[.pointer (some ⟨gl, s.lo * 5, none⟩)] wd.drew fun e w' => e = .returned (.int .u32 (oo : Int)) ∧ w' = wd.drew) := by
              have := own_w gl (s.lo * 5) cc aa wd.drew hl2 hl4
              have e : (if (cc : Int) = 2147483648 then (aa : Int) else (cc : Int)) = (oo : Int) := by
                rw [← hoo]
                by_cases hh : cc = 2147483648
                · rw [if_pos hh, if_pos (by omega)]
                · rw [if_neg hh, if_neg (by omega)]
              rw [e] at this
              exact this
            replace HD := hid HD
            clear hoo hcc haa
            go_cut [101] from 93 to 118 (fun _ wx => ∃ nv', S1a N w i gS cS gN cN gH cH m gp s.lo s.hi s.en ss dd ⟨0, 0, true, cc, oo, aa⟩ nv' wx)
            case first =>
              go_region_with (go_at_call 22; refine keepW K22.out ?_; rintro e rfl)
              all_goals (go_wp2_with fail; go_meet)
              all_goals (case rel =>
                exact ⟨_, ((((HD.out.store' hii.out hs.out (f := 3) (by omega) (.bool true) ⟨0, 0, true, 0, 0, 0⟩ rfl).store' hii.out hs.out (f := 4) (by omega) (.int .u32 (cc : Int)) ⟨0, 0, true, cc, 0, 0⟩ rfl).store' hii.out hs.out (f := 5) (by omega) (.int .u32 (oo : Int)) ⟨0, 0, true, cc, oo, 0⟩ rfl).store' hii.out hs.out (f := 6) (by omega) (.int .u32 (aa : Int)) ⟨0, 0, true, cc, oo, aa⟩ rfl).drew 1⟩)
            case rest =>
              obtain ⟨nv', HE⟩ := hcut
              have hp0 : wc.cell? ⟨gp, 0, none⟩ = some (.int .i64 s.lo) := HE.row.cell 0
              have hpf : wc.frozen? ⟨gp, 0, none⟩ = false := HE.row.frozen 0
              have hwl : IntKind.i64.wrap ((s.lo : Int) + 1) = ((s.lo + 1 : Nat) : Int) := by rw [wrap_small _ (by omega) (by omega)]; push_cast; rfl
              replace HE := hid HE
              go_wp2_with fail
              go_meet
              case rel => exact ⟨nv', by rw [hl0.out, hdy.out]; exact HE.out.setLo _⟩
        case rest =>
          obtain ⟨nv', HB⟩ := hcut
          have hp2 : wc.cell? ⟨gp, 2, none⟩ = some (.int .i64 s.en) := HB.row.cell 2
          have ht1 := CX.out.t1 wc HB.below
          have henb : s.en ≤ 1048576 := by
            by_cases h0 : i = 0
            · rw [hroot.out h0]; show 0 ≤ _; omega
            · have h1 := (hgood.out (by omega)).enl; have h2 := CX.out.len s.lo; omega
          have hwe : IntKind.i64.wrap (s.en : Int) = (s.en : Int) := wrap_small _ (by omega) (by omega)
          have hwe1 : IntKind.i64.wrap ((s.en : Int) + 1) = ((s.en + 1 : Nat) : Int) := by rw [wrap_small _ (by omega) (by omega)]; push_cast; rfl
          replace HB := hid HB
          go_wp2_with fail
          go_quiet (fail)
          go_upto_if 131 with fail
          refine at_world (fun wx => S1a N w i gS cS gN cN gH cH m gp (lo' N s) s.hi s.en ss dd (dyOf N C A s) nv' wx) (HB.out.drew _) ?_
          intro we HE
          clear hp2 ht1 HB
          replace HE := hid HE
          obtain ⟨st, hst⟩ : ∃ st, st = (pre N i s).length := ⟨_, rfl⟩
          replace hst := hid hst
          go_cut [8] from 130 to 133 (fun t wx => t = .int .i64 (st : Int) ∧ wx = we)
          case first =>
            by_cases h0 : i = 0
            · have hdi : decide (0 < i) = false := decide_eq_false (by omega)
              have hdi2 : ¬ (0 : Int) < (i : Int) := by omega
              have hs0 : Hid (st = s.en) := by show _ = _; rw [hst.out]; unfold pre; rw [if_pos h0, hroot.out h0]; rfl
              have hs00 : Hid ((s.en : Int) = (st : Int)) := by show _ = _; rw [hs0.out]
              clear h0
              go_wp2_with fail
              go_meet
              case rel => exact ⟨by rw [← hs00.out], rfl⟩
            · have hdi : decide (0 < i) = true := decide_eq_true (by omega)
              have hdi2 : (0 : Int) < (i : Int) := by omega
              have hs0 : Hid (((s.en + 1 : Nat) : Int) = (st : Int)) := by
                show _ = _
                rw [hst.out]; unfold pre; rw [if_neg h0, List.length_append, full_length (hgood.out (by omega))]; rfl
              clear h0
              go_wp2_with fail
              go_meet
              case rel => exact ⟨by rw [← hs0.out]; push_cast; rfl, rfl⟩
          case rest =>
            obtain ⟨rfl, rfl⟩ := hcut
            have hn1 : wc.cell? ⟨gN, i * 8 + 1, none⟩ = some (.int .i32 (dyOf N C A s).first) := HE.out.at' hii.out hs.out (f := 1) (by omega)
            have hf1 : wc.frozen? ⟨gN, i * 8 + 1, none⟩ = false := HE.out.frozen _
            have hwm : IntKind.i32.wrap (m : Int) = (m : Int) := by rw [IntKind.wrap_i32]; omega
            have HF : Hid (S1a N w i gS cS gN cN gH cH m gp (lo' N s) s.hi s.en ss dd ⟨m, 0, (dyOf N C A s).dfn, (dyOf N C A s).cat, (dyOf N C A s).own, (dyOf N C A s).all⟩ (nv'.set i (nvOf s ⟨m, 0, (dyOf N C A s).dfn, (dyOf N C A s).cat, (dyOf N C A s).own, (dyOf N C A s).all⟩ 0)) (wc.setCell ⟨gN, i * 8 + 1, none⟩ (.int .i32 (m : Int)))) :=
              HE.out.store' hii.out hs.out (f := 1) (by omega) _ _ (by unfold dyOf; cases isDfn N s <;> rfl)
            generalize (dyOf N C A s).first = ff at hn1
            go_upto_region 15 with fail
            refine at_world (fun wx => S1a N w i gS cS gN cN gH cH m gp (lo' N s) s.hi s.en ss dd ⟨m, 0, (dyOf N C A s).dfn, (dyOf N C A s).cat, (dyOf N C A s).own, (dyOf N C A s).all⟩ (nv'.set i (nvOf s ⟨m, 0, (dyOf N C A s).dfn, (dyOf N C A s).cat, (dyOf N C A s).own, (dyOf N C A s).all⟩ 0)) wx) HF.out ?_
            intro wf HG
            clear HF hn1 hf1 HE
            have hp0 : wf.cell? ⟨gp, 0, none⟩ = some (.int .i64 (lo' N s)) := HG.row.cell 0
            replace HG := hid HG
            go_wp2_with fail
            refine L2 CX.out hrg.out (dd := dd ++ [⟨m, 0, (dyOf N C A s).dfn, (dyOf N C A s).cat, (dyOf N C A s).own, (dyOf N C A s).all⟩]) ?hdl ?hss ?hs0 wf st hst.out (HG.out.inner hrg.out.le) _ _ _ _ _ _ _ _ _ _ _ _ _ _ _ _ _ _ _ _ _ _ _ _ _ _ _ _ _ _ _ _ _ _ _ _ _ _ _ _ _ _ _ _ _ _ _ _ _ _ _ _ _ _ _ _ _ _ _ _ _ _ _ _ _ _ _ _ _ _ _ _ _ _ _ _ _ _ _ _ _ _ _ _ _ _ _ _ _ _ _ _ _ _ _ _ _ _ _ _ _ _ _ _ _ _ _ _ _ _ _ _ _ _ _ _ _ _ _ _ _ _ _ _ _ _ _ _ _ _ _ _ _ _ _ _ _ _ _ _ _ _ _ _ _ _ _ _ _ _ _ _ _ _ _ _ _ _ _ _ _ _ _ _ _ _ _ _ _ _ _ _ _ _ _ _ _ _ _ _ _ _ _ _ _ _ _ _ _ _ _ _ _ _ _ _ _ _ _ _ _ _ _ _ _ _ _ _ _ _ _ _ _ _ _ _ _ _ _ _ _ _ _ _ _ _ _ _ _ _ _ _ _ _ _ _ _ _ _ _ _ _ _ _ _ _ _ _ _ _ _ _ _ _ _ _ _ _ _ _ _ _ _ _ _ _ _ _ _ _ _ _ _ _ _ _ _ _ _ _ _ _ _ _ _ _ _ _ ?hex
            case hdl => rw [List.length_append, hii.out, hlen.out]; show i + 1 ≤ m; omega
            case hss => rw [hlen.out]; omega
            case hs0 => rw [hlen.out]; omega
            case hex =>
              intros
              rename_i gS' cS' gN' cN' gH' cH' m' ks nv2 wz HZ
              have hil : (ss ++ ks)[dd.length]? = some s := by
                rw [hii.out, List.getElem?_append_left (by rw [hlen.out]; exact hlt)]; exact hs.out
              have hat := HZ.tab.at hil
              rw [hii.out] at hat
              have hnl : nv2.length = m' := by rw [HZ.tab.1]; exact HZ.mem.len
              have hmm : m' = m + ks.length := by have := HZ.mem.len; rw [List.length_append, hlen.out] at this; omega
              have hkl : ks.length ≤ 4096 := by have := HZ.grow.kids.le; omega
              have hn1 : wz.cell? ⟨gN', i * 8 + 1, none⟩ = some (.int .i32 (m : Int)) := HZ.mem.ndCell (f := 1) hat hnl (by omega)
              have hn2 : wz.cell? ⟨gN', i * 8 + 2, none⟩ = some (.int .i32 (0 : Nat)) := HZ.mem.ndCell (f := 2) hat hnl (by omega)
              have hf2 : wz.frozen? ⟨gN', i * 8 + 2, none⟩ = false := HZ.mem.nd.frozenAt _
              obtain ⟨dd', nv3, hfin⟩ := S2.finish CX.out.hN HS.out hs.out HZ (by rw [hlen.out])
              replace hfin := hid hfin
              have him2 : (i : Int) < (m' : Int) := by omega
              have hwm2 : IntKind.i32.wrap (m' : Int) = (m' : Int) := by rw [IntKind.wrap_i32]; omega
              have hwm3 : IntKind.i32.wrap ((m' : Int) - (m : Int)) = ((ks.length : Nat) : Int) := by rw [IntKind.wrap_i32]; omega
              have hwi : IntKind.i64.wrap ((i : Int) + 1) = ((i + 1 : Nat) : Int) := by rw [wrap_small _ (by omega) (by omega)]; push_cast; rfl
              generalize hkk : ks.length = kk at *
              clear HZ hat hil hmm HG hp0 hnl
              go_wp2_with fail
              go_roundg (gk - 1)
              case measure => omega
              case rel => exact ⟨gS', cS', gN', cN', gH', cH', m', i + 1, _, dd', nv3, rfl, rfl, rfl, by go_num, by omega, hfin.out⟩
    · have hlti : ¬ (i : Int) < (m : Int) := by omega
      obtain rfl : i = m := by omega
      go_wp2_with fail
      exact HEX.out _ _ _ _ _ _ _ _ _ _ _ _ _ _ _ _ _ _ _ _ _ _ _ _ _ _ _ _ _ _ _ _ _ _ _ _ _ _ _ _ _ _ _ _ _ _ _ _ _ _ _ _ _ _ _ _ _ _ _ _ _ _ _ _ _ _ _ _ _ _ _ _ _ _ _ _ _ _ _ _ _ _ _ _ _ _ _ _ _ _ _ _ _ _ _ _ _ _ _ _ _ _ _ _ _ _ _ _ _ _ _ _ _ _ _ _ _ _ _ _ _ _ _ _ _ _ _ _ _ _ _ _ _ _ _ _ _ _ _ _ _ _ _ _ _ _ _ _ _ _ _ _ _ _ _ _ _ _ _ _ _ _ _ _ _ _ _ _ _ _ _ _ _ _ _ _ _ _ _ _ _ _ _ _ _ _ _ _ _ _ _ _ _ _ _ _ _ _ _ _ _ _ _ _ gS cS gN cN gH cH i ss dd nv wr HS.out

end Go.Proofs.Qxb6600888a
