import Derived.Test.Qxb6600888aTr1
namespace Go.Proofs.Qxb6600888a
open Go.RowKit
set_option linter.unusedVariables false
set_option linter.unusedSimpArgs false

def fu (N : List Str) (ss : List St) (j : Nat) : Str := match ss[j]? with | some s => fullOf N j s | none => []
/-- The full names stand as far as q. -/
structure Fl (N : List Str) (ss : List St) (w : World) (m gf q : Nat) (wx : World) : Prop where
  row : ∃ arr : Array Value, RowAt wx gf 9 arr ∧ arr.size = m ∧ ∀ j, j < m → arr[j]? = some (.string (bs (if j < q then fu N ss j else [])))
  big : w.heap.size ≤ gf
  below : Below w.heap.size w wx
section
variable {N : List Str} {ss : List St} {w : World} {m gf q : Nat} {wx wy : World}
theorem Fl.below' (h : Fl N ss w m gf q wx) (hb : Below wx.heap.size wx wy) : Fl N ss w m gf q wy := by
  obtain ⟨arr, h1, h2, h3⟩ := h.row
  exact ⟨⟨arr, h1.below hb h1.lt, h2, h3⟩, h.big, h.below.trans (hb.mono h.below.size)⟩
theorem Fl.cell (h : Fl N ss w m gf q wx) {j : Nat} (hj : j < m) : wx.cell? ⟨gf, j, none⟩ = some (.string (bs (if j < q then fu N ss j else []))) := by
  obtain ⟨arr, h1, h2, h3⟩ := h.row
  rw [h1.cell]; exact h3 j hj
theorem Fl.frozen (h : Fl N ss w m gf q wx) (j : Nat) : wx.frozen? ⟨gf, j, none⟩ = false := by
  obtain ⟨arr, h1, h2, h3⟩ := h.row
  exact h1.frozen j
theorem Fl.set (h : Fl N ss w m gf q wx) (hq : q < m) : Fl N ss w m gf (q + 1) (wx.setCell ⟨gf, q, none⟩ (.string (bs (fu N ss q)))) := by
  obtain ⟨arr, h1, h2, h3⟩ := h.row
  refine ⟨⟨_, h1.set q _, by simp [h2], fun j hj => ?_⟩, h.big, h.below.setCell h.big _⟩
  by_cases e : j = q
  · subst e; rw [if_pos (by omega)]; simp [h2, hj]
  · rw [Array.getElem?_setIfInBounds_ne (by omega), h3 j hj]
    by_cases hjq : j < q
    · rw [if_pos hjq, if_pos (by omega)]
    · rw [if_neg hjq, if_neg (by omega)]
end
theorem bs_append (a b : Str) : bs a ++ bs b = bs (a ++ b) := by
  apply ByteArray.ext
  rw [ByteArray.data_append]
  apply Array.ext'
  simp [bs]
theorem fu_len {N : List Str} {ss : List St} (hlen : ∀ j, (nm N j).length ≤ 1048576) (j : Nat) : (fu N ss j).length ≤ 1048576 := by
  unfold fu
  split
  · rename_i s _
    unfold fullOf
    split
    · simp
    · unfold full; rw [List.length_take]; have := hlen s.lo; omega
  · simp

def fnb (x : ByteArray) : ByteArray := bs (fn (lst x))
theorem fnb_w (x : ByteArray) (w : World) (h : x.size ≤ 1048576) : Calls Try.prog 19 #[.string x] w fun e w' => e = .returned (.string (fnb x)) ∧ w' = w := firstName_w x w h

noncomputable def tbody3 : Code := ((Try.f12.body.map loops).getD []).getD 2 .skip

set_option maxHeartbeats 8000000 in
set_option maxRecDepth 1000000 in
theorem T3 {N : List Str} {C A : List Nat} {w : World} {n m : Nat} {ss : List St} {dd : List Dy} {nv : List Nv} {go gH cH gC gA cn gf : Nat} {an : Option Addr} (ck : Ck N C A w n m ss dd nv go gH gC gA an) {i : Nat} {s : St} {d : Dy} (hs : ss[i]? = some s) (hd : dd[i]? = some d) (wr : World) (h0 : Fl N ss w m gf d.first wr)
    (Q : Exit → Act → World → Prop) (u5 u6 u7 u8 u9 u10 u12 u13 u14 u17 u21 u22 u23 u24 u25 u26 u27 u28 u29 u30 u31 u32 u33 u34 u35 u36 u37 u38 u39 u40 u41 u42 u43 u44 u45 u46 u47 u48 u49 u50 u51 u52 u53 u54 u55 u56 u57 u58 u59 u60 u61 u62 u63 u64 u65 u66 u67 u68 u69 u70 u71 u72 u73 u74 u75 u76 u77 u78 u79 u80 u81 u82 u83 u84 u85 u86 u87 u88 u89 u90 u91 u92 u93 u94 u95 u96 u97 u98 u99 u100 u101 u102 u103 u104 u105 u106 u107 u108 u109 u110 u111 u112 u113 u114 u115 u116 u117 u118 u119 u120 u121 u122 u123 u124 u125 u126 u127 u128 u129 u130 u131 u132 u133 u134 u135 u136 u137 u138 u139 u140 u141 u142 u143 u144 u145 u146 u147 u148 u149 u150 u151 u152 u153 u154 u155 u156 u157 u158 u159 u160 u161 u162 u163 u164 u165 u166 u167 u168 u169 u170 u171 u172 u173 u174 u175 u176 u177 u178 u179 u180 u181 u182 u183 u184 u185 u186 u187 u188 u189 u190 u191 u192 u193 u194 u195 u196 u197 u198 u199 u200 u201 u202 u203 u204 u205 u206 u207 u208 u209 u210 u211 u212 u213 u214 u215 u216 u217 u218 u219 u220 u221 u222 u223 u224 u225 u226 u227 u228 u229 u230 u231 u232 u233 u234 u235 u236 u237 u238 u239 u240 u241 u242 u243 u244 u245 u246 u247 u248 u249 u250 u251 u252 u253 u254 u255 u256 u257 u258 u259 u260 u261 u262 u263 u264 u265 u266 u267 u268 u269 u270 u271 u272 u273 u274 u275 u276 u277 u278 u279 u280 u281 u282 u283 u284 u285 u286 u287 u288 u289 u290 u291 u292 u293 u294 u295 u296 u297 u298 u299 u300 u301 u302 u303 u304 u305 u306 u307 u308 u309 u310 u311 u312 u313 u314 u315 u316 u317 u318 u319 u320 u321 u322 u323 u324 u325 u326 u327 u328 u329 u330 u331 u332 u333 u334 u335 u336 u337 u338 u339 u340 u341 u342 u343 u344 u345 u346 u347 u348 u349 u350 u351 u352 u353 u354 u355 u356 u357 u358 u359 u360 u361 u362 u363 u364 u365 : Value)
    (hexit : ∀ (x10 x20 x21 x198 x199 x200 x201 x202 x203 x204 x205 x206 x207 x208 x209 x210 x211 x212 x213 x214 x215 x216 x217 x218 x219 x220 x221 x222 x223 x224 x225 x226 x227 x228 x229 x230 x231 x232 x233 x234 x235 x236 x237 x238 x239 x240 : Value) (wz : World), Fl N ss w m gf (d.first + d.count) wz → Q (.exit 4) ⟨List.toArray ((Value.slice (some ⟨go, 0, none⟩) m m) :: (Value.slice (some ⟨gH, 0, none⟩) m cH) :: (Value.slice an n cn) :: (Value.slice (some ⟨gC, 0, none⟩) n n) :: (Value.slice (some ⟨gA, 0, none⟩) n n) :: u5 :: u6 :: u7 :: u8 :: u9 :: x10 :: (Value.int .i64 (m : Int)) :: u12 :: u13 :: u14 :: (Value.slice (some ⟨gf, 0, none⟩) m m) :: (Value.int .i64 (i : Int)) :: u17 :: (Value.int .i64 (d.first : Int)) :: (Value.int .i64 (d.count : Int)) :: x20 :: x21 :: u22 :: u23 :: u24 :: u25 :: u26 :: u27 :: u28 :: u29 :: u30 :: u31 :: u32 :: u33 :: u34 :: u35 :: u36 :: u37 :: u38 :: u39 :: u40 :: u41 :: u42 :: u43 :: u44 :: u45 :: u46 :: u47 :: u48 :: u49 :: u50 :: u51 :: u52 :: u53 :: u54 :: u55 :: u56 :: u57 :: u58 :: u59 :: u60 :: u61 :: u62 :: u63 :: u64 :: u65 :: u66 :: u67 :: u68 :: u69 :: u70 :: u71 :: u72 :: u73 :: u74 :: u75 :: u76 :: u77 :: u78 :: u79 :: u80 :: u81 :: u82 :: u83 :: u84 :: u85 :: u86 :: u87 :: u88 :: u89 :: u90 :: u91 :: u92 :: u93 :: u94 :: u95 :: u96 :: u97 :: u98 :: u99 :: u100 :: u101 :: u102 :: u103 :: u104 :: u105 :: u106 :: u107 :: u108 :: u109 :: u110 :: u111 :: u112 :: u113 :: u114 :: u115 :: u116 :: u117 :: u118 :: u119 :: u120 :: u121 :: u122 :: u123 :: u124 :: u125 :: u126 :: u127 :: u128 :: u129 :: u130 :: u131 :: u132 :: u133 :: u134 :: u135 :: u136 :: u137 :: u138 :: u139 :: u140 :: u141 :: u142 :: u143 :: u144 :: u145 :: u146 :: u147 :: u148 :: u149 :: u150 :: u151 :: u152 :: u153 :: u154 :: u155 :: u156 :: u157 :: u158 :: u159 :: u160 :: u161 :: u162 :: u163 :: u164 :: u165 :: u166 :: u167 :: u168 :: u169 :: u170 :: u171 :: u172 :: u173 :: u174 :: u175 :: u176 :: u177 :: u178 :: u179 :: u180 :: u181 :: u182 :: u183 :: u184 :: u185 :: u186 :: u187 :: u188 :: u189 :: u190 :: u191 :: u192 :: u193 :: u194 :: u195 :: u196 :: u197 :: x198 :: x199 :: x200 :: x201 :: x202 :: x203 :: x204 :: x205 :: x206 :: x207 :: x208 :: x209 :: x210 :: x211 :: x212 :: x213 :: x214 :: x215 :: x216 :: x217 :: x218 :: x219 :: x220 :: x221 :: x222 :: x223 :: x224 :: x225 :: x226 :: x227 :: x228 :: x229 :: x230 :: x231 :: x232 :: x233 :: x234 :: x235 :: x236 :: x237 :: x238 :: x239 :: x240 :: u241 :: u242 :: u243 :: u244 :: u245 :: u246 :: u247 :: u248 :: u249 :: u250 :: u251 :: u252 :: u253 :: u254 :: u255 :: u256 :: u257 :: u258 :: u259 :: u260 :: u261 :: u262 :: u263 :: u264 :: u265 :: u266 :: u267 :: u268 :: u269 :: u270 :: u271 :: u272 :: u273 :: u274 :: u275 :: u276 :: u277 :: u278 :: u279 :: u280 :: u281 :: u282 :: u283 :: u284 :: u285 :: u286 :: u287 :: u288 :: u289 :: u290 :: u291 :: u292 :: u293 :: u294 :: u295 :: u296 :: u297 :: u298 :: u299 :: u300 :: u301 :: u302 :: u303 :: u304 :: u305 :: u306 :: u307 :: u308 :: u309 :: u310 :: u311 :: u312 :: u313 :: u314 :: u315 :: u316 :: u317 :: u318 :: u319 :: u320 :: u321 :: u322 :: u323 :: u324 :: u325 :: u326 :: u327 :: u328 :: u329 :: u330 :: u331 :: u332 :: u333 :: u334 :: u335 :: u336 :: u337 :: u338 :: u339 :: u340 :: u341 :: u342 :: u343 :: u344 :: u345 :: u346 :: u347 :: u348 :: u349 :: u350 :: u351 :: u352 :: u353 :: u354 :: u355 :: u356 :: u357 :: u358 :: u359 :: u360 :: u361 :: u362 :: u363 :: u364 :: u365 :: []), []⟩ wz) :
    Code.wp Try.prog (Code.loop tbody3) Q ⟨List.toArray ((Value.slice (some ⟨go, 0, none⟩) m m) :: (Value.slice (some ⟨gH, 0, none⟩) m cH) :: (Value.slice an n cn) :: (Value.slice (some ⟨gC, 0, none⟩) n n) :: (Value.slice (some ⟨gA, 0, none⟩) n n) :: u5 :: u6 :: u7 :: u8 :: u9 :: u10 :: (Value.int .i64 (m : Int)) :: u12 :: u13 :: u14 :: (Value.slice (some ⟨gf, 0, none⟩) m m) :: (Value.int .i64 (i : Int)) :: u17 :: (Value.int .i64 (d.first : Int)) :: (Value.int .i64 (d.count : Int)) :: (Value.int .i64 (d.first : Int)) :: u21 :: u22 :: u23 :: u24 :: u25 :: u26 :: u27 :: u28 :: u29 :: u30 :: u31 :: u32 :: u33 :: u34 :: u35 :: u36 :: u37 :: u38 :: u39 :: u40 :: u41 :: u42 :: u43 :: u44 :: u45 :: u46 :: u47 :: u48 :: u49 :: u50 :: u51 :: u52 :: u53 :: u54 :: u55 :: u56 :: u57 :: u58 :: u59 :: u60 :: u61 :: u62 :: u63 :: u64 :: u65 :: u66 :: u67 :: u68 :: u69 :: u70 :: u71 :: u72 :: u73 :: u74 :: u75 :: u76 :: u77 :: u78 :: u79 :: u80 :: u81 :: u82 :: u83 :: u84 :: u85 :: u86 :: u87 :: u88 :: u89 :: u90 :: u91 :: u92 :: u93 :: u94 :: u95 :: u96 :: u97 :: u98 :: u99 :: u100 :: u101 :: u102 :: u103 :: u104 :: u105 :: u106 :: u107 :: u108 :: u109 :: u110 :: u111 :: u112 :: u113 :: u114 :: u115 :: u116 :: u117 :: u118 :: u119 :: u120 :: u121 :: u122 :: u123 :: u124 :: u125 :: u126 :: u127 :: u128 :: u129 :: u130 :: u131 :: u132 :: u133 :: u134 :: u135 :: u136 :: u137 :: u138 :: u139 :: u140 :: u141 :: u142 :: u143 :: u144 :: u145 :: u146 :: u147 :: u148 :: u149 :: u150 :: u151 :: u152 :: u153 :: u154 :: u155 :: u156 :: u157 :: u158 :: u159 :: u160 :: u161 :: u162 :: u163 :: u164 :: u165 :: u166 :: u167 :: u168 :: u169 :: u170 :: u171 :: u172 :: u173 :: u174 :: u175 :: u176 :: u177 :: u178 :: u179 :: u180 :: u181 :: u182 :: u183 :: u184 :: u185 :: u186 :: u187 :: u188 :: u189 :: u190 :: u191 :: u192 :: u193 :: u194 :: u195 :: u196 :: u197 :: u198 :: u199 :: u200 :: u201 :: u202 :: u203 :: u204 :: u205 :: u206 :: u207 :: u208 :: u209 :: u210 :: u211 :: u212 :: u213 :: u214 :: u215 :: u216 :: u217 :: u218 :: u219 :: u220 :: u221 :: u222 :: u223 :: u224 :: u225 :: u226 :: u227 :: u228 :: u229 :: u230 :: u231 :: u232 :: u233 :: u234 :: u235 :: u236 :: u237 :: u238 :: u239 :: u240 :: u241 :: u242 :: u243 :: u244 :: u245 :: u246 :: u247 :: u248 :: u249 :: u250 :: u251 :: u252 :: u253 :: u254 :: u255 :: u256 :: u257 :: u258 :: u259 :: u260 :: u261 :: u262 :: u263 :: u264 :: u265 :: u266 :: u267 :: u268 :: u269 :: u270 :: u271 :: u272 :: u273 :: u274 :: u275 :: u276 :: u277 :: u278 :: u279 :: u280 :: u281 :: u282 :: u283 :: u284 :: u285 :: u286 :: u287 :: u288 :: u289 :: u290 :: u291 :: u292 :: u293 :: u294 :: u295 :: u296 :: u297 :: u298 :: u299 :: u300 :: u301 :: u302 :: u303 :: u304 :: u305 :: u306 :: u307 :: u308 :: u309 :: u310 :: u311 :: u312 :: u313 :: u314 :: u315 :: u316 :: u317 :: u318 :: u319 :: u320 :: u321 :: u322 :: u323 :: u324 :: u325 :: u326 :: u327 :: u328 :: u329 :: u330 :: u331 :: u332 :: u333 :: u334 :: u335 :: u336 :: u337 :: u338 :: u339 :: u340 :: u341 :: u342 :: u343 :: u344 :: u345 :: u346 :: u347 :: u348 :: u349 :: u350 :: u351 :: u352 :: u353 :: u354 :: u355 :: u356 :: u357 :: u358 :: u359 :: u360 :: u361 :: u362 :: u363 :: u364 :: u365 :: []), []⟩ wr := by
  have CK : Hid (Ck N C A w n m ss dd nv go gH gC gA an) := ck
  have H0 : Hid (Fl N ss w m gf d.first wr) := h0
  have HEX : Hid (∀ (x10 x20 x21 x198 x199 x200 x201 x202 x203 x204 x205 x206 x207 x208 x209 x210 x211 x212 x213 x214 x215 x216 x217 x218 x219 x220 x221 x222 x223 x224 x225 x226 x227 x228 x229 x230 x231 x232 x233 x234 x235 x236 x237 x238 x239 x240 : Value) (wz : World), Fl N ss w m gf (d.first + d.count) wz → Q (.exit 4) ⟨List.toArray ((Value.slice (some ⟨go, 0, none⟩) m m) :: (Value.slice (some ⟨gH, 0, none⟩) m cH) :: (Value.slice an n cn) :: (Value.slice (some ⟨gC, 0, none⟩) n n) :: (Value.slice (some ⟨gA, 0, none⟩) n n) :: u5 :: u6 :: u7 :: u8 :: u9 :: x10 :: (Value.int .i64 (m : Int)) :: u12 :: u13 :: u14 :: (Value.slice (some ⟨gf, 0, none⟩) m m) :: (Value.int .i64 (i : Int)) :: u17 :: (Value.int .i64 (d.first : Int)) :: (Value.int .i64 (d.count : Int)) :: x20 :: x21 :: u22 :: u23 :: u24 :: u25 :: u26 :: u27 :: u28 :: u29 :: u30 :: u31 :: u32 :: u33 :: u34 :: u35 :: u36 :: u37 :: u38 :: u39 :: u40 :: u41 :: u42 :: u43 :: u44 :: u45 :: u46 :: u47 :: u48 :: u49 :: u50 :: u51 :: u52 :: u53 :: u54 :: u55 :: u56 :: u57 :: u58 :: u59 :: u60 :: u61 :: u62 :: u63 :: u64 :: u65 :: u66 :: u67 :: u68 :: u69 :: u70 :: u71 :: u72 :: u73 :: u74 :: u75 :: u76 :: u77 :: u78 :: u79 :: u80 :: u81 :: u82 :: u83 :: u84 :: u85 :: u86 :: u87 :: u88 :: u89 :: u90 :: u91 :: u92 :: u93 :: u94 :: u95 :: u96 :: u97 :: u98 :: u99 :: u100 :: u101 :: u102 :: u103 :: u104 :: u105 :: u106 :: u107 :: u108 :: u109 :: u110 :: u111 :: u112 :: u113 :: u114 :: u115 :: u116 :: u117 :: u118 :: u119 :: u120 :: u121 :: u122 :: u123 :: u124 :: u125 :: u126 :: u127 :: u128 :: u129 :: u130 :: u131 :: u132 :: u133 :: u134 :: u135 :: u136 :: u137 :: u138 :: u139 :: u140 :: u141 :: u142 :: u143 :: u144 :: u145 :: u146 :: u147 :: u148 :: u149 :: u150 :: u151 :: u152 :: u153 :: u154 :: u155 :: u156 :: u157 :: u158 :: u159 :: u160 :: u161 :: u162 :: u163 :: u164 :: u165 :: u166 :: u167 :: u168 :: u169 :: u170 :: u171 :: u172 :: u173 :: u174 :: u175 :: u176 :: u177 :: u178 :: u179 :: u180 :: u181 :: u182 :: u183 :: u184 :: u185 :: u186 :: u187 :: u188 :: u189 :: u190 :: u191 :: u192 :: u193 :: u194 :: u195 :: u196 :: u197 :: x198 :: x199 :: x200 :: x201 :: x202 :: x203 :: x204 :: x205 :: x206 :: x207 :: x208 :: x209 :: x210 :: x211 :: x212 :: x213 :: x214 :: x215 :: x216 :: x217 :: x218 :: x219 :: x220 :: x221 :: x222 :: x223 :: x224 :: x225 :: x226 :: x227 :: x228 :: x229 :: x230 :: x231 :: x232 :: x233 :: x234 :: x235 :: x236 :: x237 :: x238 :: x239 :: x240 :: u241 :: u242 :: u243 :: u244 :: u245 :: u246 :: u247 :: u248 :: u249 :: u250 :: u251 :: u252 :: u253 :: u254 :: u255 :: u256 :: u257 :: u258 :: u259 :: u260 :: u261 :: u262 :: u263 :: u264 :: u265 :: u266 :: u267 :: u268 :: u269 :: u270 :: u271 :: u272 :: u273 :: u274 :: u275 :: u276 :: u277 :: u278 :: u279 :: u280 :: u281 :: u282 :: u283 :: u284 :: u285 :: u286 :: u287 :: u288 :: u289 :: u290 :: u291 :: u292 :: u293 :: u294 :: u295 :: u296 :: u297 :: u298 :: u299 :: u300 :: u301 :: u302 :: u303 :: u304 :: u305 :: u306 :: u307 :: u308 :: u309 :: u310 :: u311 :: u312 :: u313 :: u314 :: u315 :: u316 :: u317 :: u318 :: u319 :: u320 :: u321 :: u322 :: u323 :: u324 :: u325 :: u326 :: u327 :: u328 :: u329 :: u330 :: u331 :: u332 :: u333 :: u334 :: u335 :: u336 :: u337 :: u338 :: u339 :: u340 :: u341 :: u342 :: u343 :: u344 :: u345 :: u346 :: u347 :: u348 :: u349 :: u350 :: u351 :: u352 :: u353 :: u354 :: u355 :: u356 :: u357 :: u358 :: u359 :: u360 :: u361 :: u362 :: u363 :: u364 :: u365 :: []), []⟩ wz) := hexit
  have hmb := ck.mb
  have hdn := ck.fin.inv.done i s d hs hd
  have hgt := hdn.gt
  have hft : d.first + d.count ≤ m := by have := hdn.fits; rw [ck.fin.sl] at this; exact this
  have HKN : Hid (∀ t, t < d.count → ∃ c, ss[d.first + t]? = some c ∧ Good N c ∧ full N c = pre N i s ++ c.lab ∧ (t = 0 ∨ ∃ b, ss[d.first + t - 1]? = some b ∧ fn b.lab ≠ fn c.lab)) := fun t ht => ck.fin.kidName hs hd ht
  have HS : Hid (ss[i]? = some s) := hs
  generalize d.first = f at *
  generalize d.count = k at *
  have w0 : IntKind.i64.wrap ((f : Int) + (k : Int)) = ((f + k : Nat) : Int) := by rw [wrap_small _ (by omega) (by omega)]; push_cast; rfl
  obtain ⟨e, he⟩ : ∃ e, e = f + k := ⟨_, rfl⟩
  rw [← he] at w0
  clear ck h0 hexit hdn hs hd
  conv => arg 2; arg 1; whnf
  go_loopg [20, 21] k (fun g v _ wx => ∃ t : Nat, v = .int .i64 ((f + t : Nat) : Int) ∧ t + g = k ∧ Fl N ss w m gf (f + t) wx)
  case atStart => exact ⟨0, rfl, by omega, H0.out⟩
  case round =>
    obtain ⟨t, rfl, htg, hF⟩ := hrel
    obtain ⟨j, hj⟩ : ∃ j, j = f + t := ⟨_, rfl⟩
    rw [← hj] at hF ⊢
    have HF : Hid (Fl N ss w m gf j wr) := hF
    cases gk with
    | zero =>
      have hje : j = e := by omega
      subst hje
      have hnl : ¬ (j : Int) < (j : Int) := by omega
      have HF2 : Hid (Fl N ss w m gf (f + k) wr) := by show Fl _ _ _ _ _ _ _; rw [← he]; exact hF
      replace he := hid he
      clear hF hj
      go_wp2_with fail
      exact HEX.out _ _ _ _ _ _ _ _ _ _ _ _ _ _ _ _ _ _ _ _ _ _ _ _ _ _ _ _ _ _ _ _ _ _ _ _ _ _ _ _ _ _ _ _ _ _ wr HF2.out
    | succ g =>
      have htk : t < k := by omega
      obtain ⟨c, hc, hcg, hcf, hca⟩ := HKN.out t htk
      rw [← hj] at hc
      have hjm : j < m := by omega
      obtain ⟨s2, d2, hs2, hd2, hdn2, hv2⟩ := CK.out.fin.get hjm
      rw [hc] at hs2
      cases hs2
      have hl : wr.cell? ⟨go, j * 8, none⟩ = some (.string (bs c.lab)) := CK.out.node wr hF.below j _ hv2 0 (by omega)
      have hold : ∃ o, wr.cell? ⟨gf, j, none⟩ = some o := ⟨_, hF.cell hjm⟩
      obtain ⟨o, hold⟩ := hold
      have hfz := hF.frozen j
      have hfu : fu N ss j = pre N i s ++ c.lab := by
        unfold fu; rw [hc]; unfold fullOf; simp only []
        rw [if_neg (by omega)]; exact hcf
      have hnew : Hid (Fl N ss w m gf (j + 1) (wr.setCell ⟨gf, j, none⟩ (.string (bs (fu N ss j))))) := hF.set hjm
      rw [hfu] at hnew
      have hji : (j : Int) < (e : Int) := by omega
      have hjmi : (j : Int) < (m : Int) := by omega
      have hj0 : (0 : Int) ≤ (j : Int) := by omega
      have w4 : IntKind.i64.wrap ((j : Int) + 1) = ((j + 1 : Nat) : Int) := by rw [wrap_small _ (by omega) (by omega)]; push_cast; rfl
      have hclen : c.lab.length ≤ 1048576 := by
        have h1 := congrArg List.length hcf
        rw [List.length_append] at h1
        have h2 : (full N c).length ≤ 1048576 := by unfold full; rw [List.length_take]; have := CK.out.len c.lo; omega
        omega
      have K19 : Hid (∀ (x : ByteArray) (w : World), x.size ≤ 1048576 → Calls Try.prog 19 #[.string x] w fun e w' => e = .returned (.string (fnb x)) ∧ w' = w) := fnb_w
      have hszc : (bs c.lab).size ≤ 1048576 := hclen
      by_cases hi0 : i = 0
      · have hbi : ((i : Int) == 0) = true := beq_iff_eq.2 (by omega)
        have hp0 : pre N i s = [] := by unfold pre; rw [if_pos hi0]
        rw [hp0, List.nil_append] at hnew
        have HI : Hid (i = 0) := hi0
        clear hi0
        have hbw : Below w.heap.size w (wr.setCell ⟨gf, j, none⟩ (.string (bs c.lab))) := hF.below.setCell hF.big _
        by_cases ht0 : t = 0
        · have hdf : decide (f < j) = false := decide_eq_false (by omega)
          have HT : Hid (t = 0) := ht0
          have HJ : Hid (j = f + t) := hj
          have HE : Hid (e = f + k) := he
          clear hbw hp0
          clear ht0 hca hc hcg hcf hv2 hd2 hdn2 hF hfu hj he
          go_wp2_with fail
          go_roundg g
          case measure => omega
          case rel => exact ⟨t + 1, by have := HJ.out; rw [show f + (t + 1) = j + 1 by omega]; go_num, by omega, by have := HJ.out; rw [show f + (t + 1) = j + 1 by omega]; exact hnew.out⟩
        · obtain ⟨b, hb, hbf⟩ := hca.resolve_left ht0
          obtain ⟨p, hp⟩ : ∃ p, j = p + 1 := ⟨j - 1, by omega⟩
          have hpm : p < m := by omega
          obtain ⟨s3, d3, hs3, hd3, hdn3, hv3⟩ := CK.out.fin.get hpm
          have hbp : s3 = b := by
            have e1 : f + t - 1 = p := by omega
            rw [e1, hs3] at hb; exact Option.some.inj hb
          subst hbp
          have hl3 : (wr.setCell ⟨gf, j, none⟩ (.string (bs c.lab))).cell? ⟨go, p * 8, none⟩ = some (.string (bs s3.lab)) := CK.out.node _ hbw p _ hv3 0 (by omega)
          have hglen : s3.lab.length ≤ 1048576 := by
            by_cases hpz : p = 0
            · subst hpz
              have := CK.out.fin.inv.root
              rw [hs3] at this; cases this; simp [rootSt]
            · have h1 := CK.out.len s3.lo
              obtain ⟨c9, hc9, _, hf9, _⟩ := HKN.out (t - 1) (by omega)
              have e1 : f + (t - 1) = p := by omega
              rw [e1, hs3] at hc9; cases hc9
              have h2 := congrArg List.length hf9
              rw [List.length_append] at h2
              have h3 : (full N s3).length ≤ 1048576 := by unfold full; rw [List.length_take]; omega
              omega
          have hszb : (bs s3.lab).size ≤ 1048576 := hglen
          have hneq : ((fnb (bs s3.lab)).toList == (fnb (bs c.lab)).toList) = false := by
            rw [Lib.toList_data, Lib.toList_data]; exact beq_eq_false_iff_ne.2 hbf
          have hdf : decide (f < j) = true := decide_eq_true (by omega)
          have hfji : (f : Int) < (j : Int) := by omega
          have w8 : IntKind.i64.wrap ((j : Int) - 1) = (p : Int) := by rw [wrap_small _ (by omega) (by omega)]; omega
          have hpi : (p : Int) < (m : Int) := by omega
          have hp0' : (0 : Int) ≤ (p : Int) := by omega
          have HT : Hid (t ≠ 0) := ht0
          have HJ : Hid (j = f + t) := hj
          have HE : Hid (e = f + k) := he
          clear hbw hp0
          clear ht0 hca hc hcg hcf hv2 hd2 hdn2 hF hfu hj he hb hbf hs3 hd3 hdn3 hv3 hp
          clear hglen
          go_wp2_with (go_at_call 19; refine keepW (K19.out _ _ (by assumption)) ?_; rintro e rfl)
          go_roundg g
          case measure => omega
          case rel => exact ⟨t + 1, by have := HJ.out; rw [show f + (t + 1) = j + 1 by omega]; go_num, by omega, by have := HJ.out; rw [show f + (t + 1) = j + 1 by omega]; exact hnew.out⟩
      · have hbi : ((i : Int) == 0) = false := beq_eq_false_iff_ne.2 (by omega)
        have hp0 : pre N i s = full N s ++ [46] := by unfold pre; rw [if_neg hi0]
        rw [hp0] at hnew
        have hfi : wr.cell? ⟨gf, i, none⟩ = some (.string (bs (full N s))) := by
          rw [hF.cell (show i < m by omega), if_pos (by omega)]
          congr 3
          unfold fu; rw [HS.out]; unfold fullOf; simp only []; rw [if_neg hi0]
        have hfl : (full N s).length ≤ 1048576 := by unfold full; rw [List.length_take]; have := CK.out.len s.lo; omega
        have hadd1 : ∀ w, (Op.stringOp .add (bs (full N s)) ⟨#[46]⟩).run Try.prog w = .ok (.string (bs (full N s ++ [46]))) w := fun w => by
          rw [run_string_add_sum w _ _ (by rw [bs_size]; show _ + 1 ≤ _; omega)]
          congr 2
        have hadd2 : ∀ w, (Op.stringOp .add (bs (full N s ++ [46])) (bs c.lab)).run Try.prog w = .ok (.string (bs (full N s ++ [46] ++ c.lab))) w := fun w => by
          rw [run_string_add_sum w _ _ (by rw [bs_size, bs_size, List.length_append]; show _ + 1 + _ ≤ _; omega), bs_append]
        obtain ⟨Y, hY⟩ : ∃ Y, full N s ++ [46] = Y := ⟨_, rfl⟩
        obtain ⟨X, hX⟩ : ∃ X, Y ++ c.lab = X := ⟨_, rfl⟩
        rw [hY] at hnew hadd1 hadd2
        rw [hX] at hnew hadd2
        have hii0 : (0 : Int) ≤ (i : Int) := by omega
        have himi : (i : Int) < (m : Int) := by omega
        have hbw : Below w.heap.size w (wr.setCell ⟨gf, j, none⟩ (.string (bs X))) := hF.below.setCell hF.big _
        by_cases ht0 : t = 0
        · have hdf : decide (f < j) = false := decide_eq_false (by omega)
          have HT : Hid (t = 0) := ht0
          have HJ : Hid (j = f + t) := hj
          have HE : Hid (e = f + k) := he
          clear hbw hp0 hfl hY hX
          clear ht0 hca hc hcg hcf hv2 hd2 hdn2 hF hfu hj he
          go_wp2_with fail
          go_roundg g
          case measure => omega
          case rel => exact ⟨t + 1, by have := HJ.out; rw [show f + (t + 1) = j + 1 by omega]; go_num, by omega, by have := HJ.out; rw [show f + (t + 1) = j + 1 by omega]; exact hnew.out⟩
        · obtain ⟨b, hb, hbf⟩ := hca.resolve_left ht0
          obtain ⟨p, hp⟩ : ∃ p, j = p + 1 := ⟨j - 1, by omega⟩
          have hpm : p < m := by omega
          obtain ⟨s3, d3, hs3, hd3, hdn3, hv3⟩ := CK.out.fin.get hpm
          have hbp : s3 = b := by
            have e1 : f + t - 1 = p := by omega
            rw [e1, hs3] at hb; exact Option.some.inj hb
          subst hbp
          have hl3 : (wr.setCell ⟨gf, j, none⟩ (.string (bs X))).cell? ⟨go, p * 8, none⟩ = some (.string (bs s3.lab)) := CK.out.node _ hbw p _ hv3 0 (by omega)
          have hglen : s3.lab.length ≤ 1048576 := by
            by_cases hpz : p = 0
            · subst hpz
              have := CK.out.fin.inv.root
              rw [hs3] at this; cases this; simp [rootSt]
            · have h1 := CK.out.len s3.lo
              obtain ⟨c9, hc9, _, hf9, _⟩ := HKN.out (t - 1) (by omega)
              have e1 : f + (t - 1) = p := by omega
              rw [e1, hs3] at hc9; cases hc9
              have h2 := congrArg List.length hf9
              rw [List.length_append] at h2
              have h3 : (full N s3).length ≤ 1048576 := by unfold full; rw [List.length_take]; omega
              omega
          have hszb : (bs s3.lab).size ≤ 1048576 := hglen
          have hneq : ((fnb (bs s3.lab)).toList == (fnb (bs c.lab)).toList) = false := by
            rw [Lib.toList_data, Lib.toList_data]; exact beq_eq_false_iff_ne.2 hbf
          have hdf : decide (f < j) = true := decide_eq_true (by omega)
          have hfji : (f : Int) < (j : Int) := by omega
          have w8 : IntKind.i64.wrap ((j : Int) - 1) = (p : Int) := by rw [wrap_small _ (by omega) (by omega)]; omega
          have hpi : (p : Int) < (m : Int) := by omega
          have hp0' : (0 : Int) ≤ (p : Int) := by omega
          have HT : Hid (t ≠ 0) := ht0
          have HJ : Hid (j = f + t) := hj
          have HE : Hid (e = f + k) := he
          clear hbw hp0 hfl hY hX
          clear ht0 hca hc hcg hcf hv2 hd2 hdn2 hF hfu hj he hb hbf hs3 hd3 hdn3 hv3 hp
          clear hglen
          go_wp2_with (go_at_call 19; refine keepW (K19.out _ _ (by assumption)) ?_; rintro e rfl)
          go_roundg g
          case measure => omega
          case rel => exact ⟨t + 1, by have := HJ.out; rw [show f + (t + 1) = j + 1 by omega]; go_num, by omega, by have := HJ.out; rw [show f + (t + 1) = j + 1 by omega]; exact hnew.out⟩

end Go.Proofs.Qxb6600888a
