import Derived.Test.Qxb6600888aTr3
namespace Go.Proofs.Qxb6600888a
open Go.RowKit
set_option linter.unusedVariables false
set_option linter.unusedSimpArgs false

theorem cnt_split (dd : List Dy) : ∀ (q i : Nat), 1 + cnt (dd.take i) > q → 1 ≤ q → ∃ (k : Nat) (d : Dy) (t : Nat), k < i ∧ dd[k]? = some d ∧ t < d.count ∧ 1 + cnt (dd.take k) + t = q := by
  intro q i
  induction i with
  | zero => intro h1 h2; simp [cnt] at h1; omega
  | succ i ih =>
    intro h1 h2
    by_cases h : 1 + cnt (dd.take i) > q
    · obtain ⟨k, d, t, a, b, c, e⟩ := ih h h2
      exact ⟨k, d, t, by omega, b, c, e⟩
    · cases hd : dd[i]? with
      | none =>
        rw [List.take_add_one, hd] at h1; simp at h1; omega
      | some d =>
        rw [cnt_take_succ hd] at h1
        exact ⟨i, d, q - (1 + cnt (dd.take i)), by omega, hd, by omega, by omega⟩
theorem parent {N : List Str} {C A : List Nat} {m : Nat} {ss : List St} {dd : List Dy} {nv : List Nv} (h : Fin N C A m ss dd nv) {k : Nat} (hk : 0 < k) (hkm : k < m) : ∃ (i : Nat) (s : St) (d : Dy) (t : Nat), ss[i]? = some s ∧ dd[i]? = some d ∧ t < d.count ∧ d.first + t = k := by
  have h1 : 1 + cnt (dd.take m) > k := by
    rw [List.take_of_length_le (by rw [h.inv.len]; exact Nat.le_refl _)]
    have := h.inv.tot; rw [h.sl] at this; omega
  obtain ⟨i, d, t, a, b, c, e⟩ := cnt_split dd k m h1 hk
  refine ⟨i, _, d, t, List.getElem?_eq_getElem (by rw [h.sl]; exact a), b, c, ?_⟩
  rw [h.inv.first i d b]; exact e
theorem labLen {N : List Str} {C A : List Nat} {m : Nat} {ss : List St} {dd : List Dy} {nv : List Nv} (h : Fin N C A m ss dd nv) (hlen : ∀ j, (nm N j).length ≤ 1048576) {k : Nat} {s : St} (hk : 0 < k) (hs : ss[k]? = some s) : s.lab.length ≤ 1048576 := by
  obtain ⟨i, si, d, t, h1, h2, h3, h4⟩ := parent h hk (by rw [← h.sl]; exact (List.getElem?_eq_some_iff.1 hs).1)
  obtain ⟨c, hc, _, hf, _⟩ := h.kidName h1 h2 h3
  rw [h4, hs] at hc; cases hc
  have e := congrArg List.length hf
  rw [List.length_append] at e
  have e2 : (full N s).length ≤ 1048576 := by unfold full; rw [List.length_take]; have := hlen s.lo; omega
  omega

noncomputable def tbody2 : Code := ((Try.f12.body.map loops).getD []).getD 1 .skip
def nx (dd : List Dy) (i : Nat) : Nat := 1 + cnt (dd.take i)

set_option maxHeartbeats 8000000 in
set_option maxRecDepth 1000000 in
theorem T2 {N : List Str} {C A : List Nat} {w : World} {n m : Nat} {ss : List St} {dd : List Dy} {nv : List Nv} {go gH cH gC gA cn gf : Nat} {an : Option Addr} (ck : Ck N C A w n m ss dd nv go gH gC gA an) (wr : World) (h0 : Fl N ss w m gf 1 wr)
    (K : Act → World → Prop) (Rr : Ending → World → Prop) (u5 u6 u7 u8 u9 u10 u12 u13 u14 u17 u18 u19 u20 u21 u22 u23 u24 u25 u26 u27 u28 u29 u30 u31 u32 u33 u34 u35 u36 u37 u38 u39 u40 u41 u42 u43 u44 u45 u46 u47 u48 u49 u50 u51 u52 u53 u54 u55 u56 u57 u58 u59 u60 u61 u62 u63 u64 u65 u66 u67 u68 u69 u70 u71 u72 u73 u74 u75 u76 u77 u78 u79 u80 u81 u82 u83 u84 u85 u86 u87 u88 u89 u90 u91 u92 u93 u94 u95 u96 u97 u98 u99 u100 u101 u102 u103 u104 u105 u106 u107 u108 u109 u110 u111 u112 u113 u114 u115 u116 u117 u118 u119 u120 u121 u122 u123 u124 u125 u126 u127 u128 u129 u130 u131 u132 u133 u134 u135 u136 u137 u138 u139 u140 u141 u142 u143 u144 u145 u146 u147 u148 u149 u150 u151 u152 u153 u154 u155 u156 u157 u158 u159 u160 u161 u162 u163 u164 u165 u166 u167 u168 u169 u170 u171 u172 u173 u174 u175 u176 u177 u178 u179 u180 u181 u182 u183 u184 u185 u186 u187 u188 u189 u190 u191 u192 u193 u194 u195 u196 u197 u198 u199 u200 u201 u202 u203 u204 u205 u206 u207 u208 u209 u210 u211 u212 u213 u214 u215 u216 u217 u218 u219 u220 u221 u222 u223 u224 u225 u226 u227 u228 u229 u230 u231 u232 u233 u234 u235 u236 u237 u238 u239 u240 u241 u242 u243 u244 u245 u246 u247 u248 u249 u250 u251 u252 u253 u254 u255 u256 u257 u258 u259 u260 u261 u262 u263 u264 u265 u266 u267 u268 u269 u270 u271 u272 u273 u274 u275 u276 u277 u278 u279 u280 u281 u282 u283 u284 u285 u286 u287 u288 u289 u290 u291 u292 u293 u294 u295 u296 u297 u298 u299 u300 u301 u302 u303 u304 u305 u306 u307 u308 u309 u310 u311 u312 u313 u314 u315 u316 u317 u318 u319 u320 u321 u322 u323 u324 u325 u326 u327 u328 u329 u330 u331 u332 u333 u334 u335 u336 u337 u338 u339 u340 u341 u342 u343 u344 u345 u346 u347 u348 u349 u350 u351 u352 u353 u354 u355 u356 u357 u358 u359 u360 u361 u362 u363 u364 u365 : Value)
    (hexit : ∀ (x10 x16 x17 x18 x19 x20 x21 x136 x137 x138 x139 x140 x141 x142 x143 x144 x145 x146 x147 x148 x149 x150 x151 x152 x153 x154 x155 x156 x157 x158 x159 x160 x161 x162 x163 x164 x165 x166 x167 x168 x169 x170 x171 x172 x173 x174 x175 x176 x177 x178 x179 x180 x181 x182 x183 x184 x185 x186 x187 x188 x189 x190 x191 x192 x193 x194 x195 x196 x197 x198 x199 x200 x201 x202 x203 x204 x205 x206 x207 x208 x209 x210 x211 x212 x213 x214 x215 x216 x217 x218 x219 x220 x221 x222 x223 x224 x225 x226 x227 x228 x229 x230 x231 x232 x233 x234 x235 x236 x237 x238 x239 x240 : Value) (wz : World), Fl N ss w m gf m wz → K ⟨List.toArray ((Value.slice (some ⟨go, 0, none⟩) m m) :: (Value.slice (some ⟨gH, 0, none⟩) m cH) :: (Value.slice an n cn) :: (Value.slice (some ⟨gC, 0, none⟩) n n) :: (Value.slice (some ⟨gA, 0, none⟩) n n) :: u5 :: u6 :: u7 :: u8 :: u9 :: x10 :: (Value.int .i64 (m : Int)) :: u12 :: u13 :: u14 :: (Value.slice (some ⟨gf, 0, none⟩) m m) :: x16 :: x17 :: x18 :: x19 :: x20 :: x21 :: u22 :: u23 :: u24 :: u25 :: u26 :: u27 :: u28 :: u29 :: u30 :: u31 :: u32 :: u33 :: u34 :: u35 :: u36 :: u37 :: u38 :: u39 :: u40 :: u41 :: u42 :: u43 :: u44 :: u45 :: u46 :: u47 :: u48 :: u49 :: u50 :: u51 :: u52 :: u53 :: u54 :: u55 :: u56 :: u57 :: u58 :: u59 :: u60 :: u61 :: u62 :: u63 :: u64 :: u65 :: u66 :: u67 :: u68 :: u69 :: u70 :: u71 :: u72 :: u73 :: u74 :: u75 :: u76 :: u77 :: u78 :: u79 :: u80 :: u81 :: u82 :: u83 :: u84 :: u85 :: u86 :: u87 :: u88 :: u89 :: u90 :: u91 :: u92 :: u93 :: u94 :: u95 :: u96 :: u97 :: u98 :: u99 :: u100 :: u101 :: u102 :: u103 :: u104 :: u105 :: u106 :: u107 :: u108 :: u109 :: u110 :: u111 :: u112 :: u113 :: u114 :: u115 :: u116 :: u117 :: u118 :: u119 :: u120 :: u121 :: u122 :: u123 :: u124 :: u125 :: u126 :: u127 :: u128 :: u129 :: u130 :: u131 :: u132 :: u133 :: u134 :: u135 :: x136 :: x137 :: x138 :: x139 :: x140 :: x141 :: x142 :: x143 :: x144 :: x145 :: x146 :: x147 :: x148 :: x149 :: x150 :: x151 :: x152 :: x153 :: x154 :: x155 :: x156 :: x157 :: x158 :: x159 :: x160 :: x161 :: x162 :: x163 :: x164 :: x165 :: x166 :: x167 :: x168 :: x169 :: x170 :: x171 :: x172 :: x173 :: x174 :: x175 :: x176 :: x177 :: x178 :: x179 :: x180 :: x181 :: x182 :: x183 :: x184 :: x185 :: x186 :: x187 :: x188 :: x189 :: x190 :: x191 :: x192 :: x193 :: x194 :: x195 :: x196 :: x197 :: x198 :: x199 :: x200 :: x201 :: x202 :: x203 :: x204 :: x205 :: x206 :: x207 :: x208 :: x209 :: x210 :: x211 :: x212 :: x213 :: x214 :: x215 :: x216 :: x217 :: x218 :: x219 :: x220 :: x221 :: x222 :: x223 :: x224 :: x225 :: x226 :: x227 :: x228 :: x229 :: x230 :: x231 :: x232 :: x233 :: x234 :: x235 :: x236 :: x237 :: x238 :: x239 :: x240 :: u241 :: u242 :: u243 :: u244 :: u245 :: u246 :: u247 :: u248 :: u249 :: u250 :: u251 :: u252 :: u253 :: u254 :: u255 :: u256 :: u257 :: u258 :: u259 :: u260 :: u261 :: u262 :: u263 :: u264 :: u265 :: u266 :: u267 :: u268 :: u269 :: u270 :: u271 :: u272 :: u273 :: u274 :: u275 :: u276 :: u277 :: u278 :: u279 :: u280 :: u281 :: u282 :: u283 :: u284 :: u285 :: u286 :: u287 :: u288 :: u289 :: u290 :: u291 :: u292 :: u293 :: u294 :: u295 :: u296 :: u297 :: u298 :: u299 :: u300 :: u301 :: u302 :: u303 :: u304 :: u305 :: u306 :: u307 :: u308 :: u309 :: u310 :: u311 :: u312 :: u313 :: u314 :: u315 :: u316 :: u317 :: u318 :: u319 :: u320 :: u321 :: u322 :: u323 :: u324 :: u325 :: u326 :: u327 :: u328 :: u329 :: u330 :: u331 :: u332 :: u333 :: u334 :: u335 :: u336 :: u337 :: u338 :: u339 :: u340 :: u341 :: u342 :: u343 :: u344 :: u345 :: u346 :: u347 :: u348 :: u349 :: u350 :: u351 :: u352 :: u353 :: u354 :: u355 :: u356 :: u357 :: u358 :: u359 :: u360 :: u361 :: u362 :: u363 :: u364 :: u365 :: []), []⟩ wz) :
    Code.wp Try.prog (Code.loop tbody2) (Exit.inBlock 2 (Exit.then K (bodyPost Try.prog Try.f12 Rr))) ⟨List.toArray ((Value.slice (some ⟨go, 0, none⟩) m m) :: (Value.slice (some ⟨gH, 0, none⟩) m cH) :: (Value.slice an n cn) :: (Value.slice (some ⟨gC, 0, none⟩) n n) :: (Value.slice (some ⟨gA, 0, none⟩) n n) :: u5 :: u6 :: u7 :: u8 :: u9 :: u10 :: (Value.int .i64 (m : Int)) :: u12 :: u13 :: u14 :: (Value.slice (some ⟨gf, 0, none⟩) m m) :: (Value.int .i64 (0 : Int)) :: u17 :: u18 :: u19 :: u20 :: u21 :: u22 :: u23 :: u24 :: u25 :: u26 :: u27 :: u28 :: u29 :: u30 :: u31 :: u32 :: u33 :: u34 :: u35 :: u36 :: u37 :: u38 :: u39 :: u40 :: u41 :: u42 :: u43 :: u44 :: u45 :: u46 :: u47 :: u48 :: u49 :: u50 :: u51 :: u52 :: u53 :: u54 :: u55 :: u56 :: u57 :: u58 :: u59 :: u60 :: u61 :: u62 :: u63 :: u64 :: u65 :: u66 :: u67 :: u68 :: u69 :: u70 :: u71 :: u72 :: u73 :: u74 :: u75 :: u76 :: u77 :: u78 :: u79 :: u80 :: u81 :: u82 :: u83 :: u84 :: u85 :: u86 :: u87 :: u88 :: u89 :: u90 :: u91 :: u92 :: u93 :: u94 :: u95 :: u96 :: u97 :: u98 :: u99 :: u100 :: u101 :: u102 :: u103 :: u104 :: u105 :: u106 :: u107 :: u108 :: u109 :: u110 :: u111 :: u112 :: u113 :: u114 :: u115 :: u116 :: u117 :: u118 :: u119 :: u120 :: u121 :: u122 :: u123 :: u124 :: u125 :: u126 :: u127 :: u128 :: u129 :: u130 :: u131 :: u132 :: u133 :: u134 :: u135 :: u136 :: u137 :: u138 :: u139 :: u140 :: u141 :: u142 :: u143 :: u144 :: u145 :: u146 :: u147 :: u148 :: u149 :: u150 :: u151 :: u152 :: u153 :: u154 :: u155 :: u156 :: u157 :: u158 :: u159 :: u160 :: u161 :: u162 :: u163 :: u164 :: u165 :: u166 :: u167 :: u168 :: u169 :: u170 :: u171 :: u172 :: u173 :: u174 :: u175 :: u176 :: u177 :: u178 :: u179 :: u180 :: u181 :: u182 :: u183 :: u184 :: u185 :: u186 :: u187 :: u188 :: u189 :: u190 :: u191 :: u192 :: u193 :: u194 :: u195 :: u196 :: u197 :: u198 :: u199 :: u200 :: u201 :: u202 :: u203 :: u204 :: u205 :: u206 :: u207 :: u208 :: u209 :: u210 :: u211 :: u212 :: u213 :: u214 :: u215 :: u216 :: u217 :: u218 :: u219 :: u220 :: u221 :: u222 :: u223 :: u224 :: u225 :: u226 :: u227 :: u228 :: u229 :: u230 :: u231 :: u232 :: u233 :: u234 :: u235 :: u236 :: u237 :: u238 :: u239 :: u240 :: u241 :: u242 :: u243 :: u244 :: u245 :: u246 :: u247 :: u248 :: u249 :: u250 :: u251 :: u252 :: u253 :: u254 :: u255 :: u256 :: u257 :: u258 :: u259 :: u260 :: u261 :: u262 :: u263 :: u264 :: u265 :: u266 :: u267 :: u268 :: u269 :: u270 :: u271 :: u272 :: u273 :: u274 :: u275 :: u276 :: u277 :: u278 :: u279 :: u280 :: u281 :: u282 :: u283 :: u284 :: u285 :: u286 :: u287 :: u288 :: u289 :: u290 :: u291 :: u292 :: u293 :: u294 :: u295 :: u296 :: u297 :: u298 :: u299 :: u300 :: u301 :: u302 :: u303 :: u304 :: u305 :: u306 :: u307 :: u308 :: u309 :: u310 :: u311 :: u312 :: u313 :: u314 :: u315 :: u316 :: u317 :: u318 :: u319 :: u320 :: u321 :: u322 :: u323 :: u324 :: u325 :: u326 :: u327 :: u328 :: u329 :: u330 :: u331 :: u332 :: u333 :: u334 :: u335 :: u336 :: u337 :: u338 :: u339 :: u340 :: u341 :: u342 :: u343 :: u344 :: u345 :: u346 :: u347 :: u348 :: u349 :: u350 :: u351 :: u352 :: u353 :: u354 :: u355 :: u356 :: u357 :: u358 :: u359 :: u360 :: u361 :: u362 :: u363 :: u364 :: u365 :: []), []⟩ wr := by
  have CK : Hid (Ck N C A w n m ss dd nv go gH gC gA an) := ck
  have H0 : Hid (Fl N ss w m gf 1 wr) := h0
  have HEX : Hid (∀ (x10 x16 x17 x18 x19 x20 x21 x136 x137 x138 x139 x140 x141 x142 x143 x144 x145 x146 x147 x148 x149 x150 x151 x152 x153 x154 x155 x156 x157 x158 x159 x160 x161 x162 x163 x164 x165 x166 x167 x168 x169 x170 x171 x172 x173 x174 x175 x176 x177 x178 x179 x180 x181 x182 x183 x184 x185 x186 x187 x188 x189 x190 x191 x192 x193 x194 x195 x196 x197 x198 x199 x200 x201 x202 x203 x204 x205 x206 x207 x208 x209 x210 x211 x212 x213 x214 x215 x216 x217 x218 x219 x220 x221 x222 x223 x224 x225 x226 x227 x228 x229 x230 x231 x232 x233 x234 x235 x236 x237 x238 x239 x240 : Value) (wz : World), Fl N ss w m gf m wz → K ⟨List.toArray ((Value.slice (some ⟨go, 0, none⟩) m m) :: (Value.slice (some ⟨gH, 0, none⟩) m cH) :: (Value.slice an n cn) :: (Value.slice (some ⟨gC, 0, none⟩) n n) :: (Value.slice (some ⟨gA, 0, none⟩) n n) :: u5 :: u6 :: u7 :: u8 :: u9 :: x10 :: (Value.int .i64 (m : Int)) :: u12 :: u13 :: u14 :: (Value.slice (some ⟨gf, 0, none⟩) m m) :: x16 :: x17 :: x18 :: x19 :: x20 :: x21 :: u22 :: u23 :: u24 :: u25 :: u26 :: u27 :: u28 :: u29 :: u30 :: u31 :: u32 :: u33 :: u34 :: u35 :: u36 :: u37 :: u38 :: u39 :: u40 :: u41 :: u42 :: u43 :: u44 :: u45 :: u46 :: u47 :: u48 :: u49 :: u50 :: u51 :: u52 :: u53 :: u54 :: u55 :: u56 :: u57 :: u58 :: u59 :: u60 :: u61 :: u62 :: u63 :: u64 :: u65 :: u66 :: u67 :: u68 :: u69 :: u70 :: u71 :: u72 :: u73 :: u74 :: u75 :: u76 :: u77 :: u78 :: u79 :: u80 :: u81 :: u82 :: u83 :: u84 :: u85 :: u86 :: u87 :: u88 :: u89 :: u90 :: u91 :: u92 :: u93 :: u94 :: u95 :: u96 :: u97 :: u98 :: u99 :: u100 :: u101 :: u102 :: u103 :: u104 :: u105 :: u106 :: u107 :: u108 :: u109 :: u110 :: u111 :: u112 :: u113 :: u114 :: u115 :: u116 :: u117 :: u118 :: u119 :: u120 :: u121 :: u122 :: u123 :: u124 :: u125 :: u126 :: u127 :: u128 :: u129 :: u130 :: u131 :: u132 :: u133 :: u134 :: u135 :: x136 :: x137 :: x138 :: x139 :: x140 :: x141 :: x142 :: x143 :: x144 :: x145 :: x146 :: x147 :: x148 :: x149 :: x150 :: x151 :: x152 :: x153 :: x154 :: x155 :: x156 :: x157 :: x158 :: x159 :: x160 :: x161 :: x162 :: x163 :: x164 :: x165 :: x166 :: x167 :: x168 :: x169 :: x170 :: x171 :: x172 :: x173 :: x174 :: x175 :: x176 :: x177 :: x178 :: x179 :: x180 :: x181 :: x182 :: x183 :: x184 :: x185 :: x186 :: x187 :: x188 :: x189 :: x190 :: x191 :: x192 :: x193 :: x194 :: x195 :: x196 :: x197 :: x198 :: x199 :: x200 :: x201 :: x202 :: x203 :: x204 :: x205 :: x206 :: x207 :: x208 :: x209 :: x210 :: x211 :: x212 :: x213 :: x214 :: x215 :: x216 :: x217 :: x218 :: x219 :: x220 :: x221 :: x222 :: x223 :: x224 :: x225 :: x226 :: x227 :: x228 :: x229 :: x230 :: x231 :: x232 :: x233 :: x234 :: x235 :: x236 :: x237 :: x238 :: x239 :: x240 :: u241 :: u242 :: u243 :: u244 :: u245 :: u246 :: u247 :: u248 :: u249 :: u250 :: u251 :: u252 :: u253 :: u254 :: u255 :: u256 :: u257 :: u258 :: u259 :: u260 :: u261 :: u262 :: u263 :: u264 :: u265 :: u266 :: u267 :: u268 :: u269 :: u270 :: u271 :: u272 :: u273 :: u274 :: u275 :: u276 :: u277 :: u278 :: u279 :: u280 :: u281 :: u282 :: u283 :: u284 :: u285 :: u286 :: u287 :: u288 :: u289 :: u290 :: u291 :: u292 :: u293 :: u294 :: u295 :: u296 :: u297 :: u298 :: u299 :: u300 :: u301 :: u302 :: u303 :: u304 :: u305 :: u306 :: u307 :: u308 :: u309 :: u310 :: u311 :: u312 :: u313 :: u314 :: u315 :: u316 :: u317 :: u318 :: u319 :: u320 :: u321 :: u322 :: u323 :: u324 :: u325 :: u326 :: u327 :: u328 :: u329 :: u330 :: u331 :: u332 :: u333 :: u334 :: u335 :: u336 :: u337 :: u338 :: u339 :: u340 :: u341 :: u342 :: u343 :: u344 :: u345 :: u346 :: u347 :: u348 :: u349 :: u350 :: u351 :: u352 :: u353 :: u354 :: u355 :: u356 :: u357 :: u358 :: u359 :: u360 :: u361 :: u362 :: u363 :: u364 :: u365 :: []), []⟩ wz) := hexit
  have hmb := ck.mb
  clear ck h0 hexit
  conv => arg 2; arg 1; whnf
  go_loopg [16] m (fun g v wx => ∃ i : Nat, v = .int .i64 (i : Int) ∧ i + g = m ∧ Fl N ss w m gf (nx dd i) wx)
  case atStart => exact ⟨0, rfl, by omega, H0.out⟩
  case round =>
    obtain ⟨i, rfl, hig, hF⟩ := hrel
    cases gk with
    | zero =>
      obtain rfl : i = m := by omega
      have hnl : ¬ (i : Int) < (i : Int) := by omega
      have HF : Hid (Fl N ss w i gf i wr) := by
        have e : nx dd i = i := by
          unfold nx
          rw [List.take_of_length_le (by rw [CK.out.fin.inv.len]; exact Nat.le_refl _)]
          have := CK.out.fin.inv.tot; rw [CK.out.fin.sl] at this; omega
        rw [e] at hF; exact hF
      clear hF
      go_wp2_with fail
      exact HEX.out _ _ _ _ _ _ _ _ _ _ _ _ _ _ _ _ _ _ _ _ _ _ _ _ _ _ _ _ _ _ _ _ _ _ _ _ _ _ _ _ _ _ _ _ _ _ _ _ _ _ _ _ _ _ _ _ _ _ _ _ _ _ _ _ _ _ _ _ _ _ _ _ _ _ _ _ _ _ _ _ _ _ _ _ _ _ _ _ _ _ _ _ _ _ _ _ _ _ _ _ _ _ _ _ _ _ _ _ _ _ _ _ wr HF.out
    | succ g =>
      have hil : i < m := by omega
      obtain ⟨s, d, hs, hd, hdn, hv⟩ := CK.out.fin.get hil
      have hnf : nx dd i = d.first := (CK.out.fin.inv.first i d hd).symm
      have hnn : nx dd (i + 1) = d.first + d.count := by unfold nx; rw [cnt_take_succ hd]; unfold nx at hnf; omega
      rw [hnf] at hF
      have q : ∀ f, f < 8 → wr.cell? ⟨go, i * 8 + f, none⟩ = (ndc (nvOf s d (orA A (lo' N s) s.hi)))[f]? := fun f hf => CK.out.node wr hF.below i _ hv f hf
      obtain ⟨bl, hbl⟩ : ∃ bl, orA A (lo' N s) s.hi = bl := ⟨_, rfl⟩
      rw [hbl] at q
      have q0 : wr.cell? ⟨go, i * 8, none⟩ = some (.string (bs s.lab)) := q 0 (by omega)
      have q1 : wr.cell? ⟨go, i * 8 + 1, none⟩ = some (.int .i32 (d.first : Int)) := q 1 (by omega)
      have q2 : wr.cell? ⟨go, i * 8 + 2, none⟩ = some (.int .i32 (d.count : Int)) := q 2 (by omega)
      have q3 : wr.cell? ⟨go, i * 8 + 3, none⟩ = some (.bool d.dfn) := q 3 (by omega)
      have q4 : wr.cell? ⟨go, i * 8 + 4, none⟩ = some (.int .u32 (d.cat : Int)) := q 4 (by omega)
      have q5 : wr.cell? ⟨go, i * 8 + 5, none⟩ = some (.int .u32 (d.own : Int)) := q 5 (by omega)
      have q6 : wr.cell? ⟨go, i * 8 + 6, none⟩ = some (.int .u32 (d.all : Int)) := q 6 (by omega)
      have q7 : wr.cell? ⟨go, i * 8 + 7, none⟩ = some (.int .u32 (bl : Int)) := q 7 (by omega)
      have hii : (i : Int) < (m : Int) := by omega
      have hi0 : (0 : Int) ≤ (i : Int) := by omega
      have HF : Hid (Fl N ss w m gf d.first wr) := hF
      have HNN : Hid (nx dd (i + 1) = d.first + d.count) := hnn
      have HD : Hid (ss[i]? = some s ∧ dd[i]? = some d ∧ Done N C A ss i s d) := ⟨hs, hd, hdn⟩
      clear q hF hv hbl hnf hnn hs hd hdn
      go_upto_region 22 with fail
      refine at_world (fun wx => Fl N ss w m gf d.first wx ∧ RowAt wx wr.heap.size 40 #[.string (bs s.lab), .int .i32 (d.first : Int), .int .i32 (d.count : Int), .bool d.dfn, .int .u32 (d.cat : Int), .int .u32 (d.own : Int), .int .u32 (d.all : Int), .int .u32 (bl : Int)]) ⟨HF.out.below' ((Below.refl _ _).alloc (Nat.le_refl _) _), RowAt.new _ _ _⟩ ?_
      rintro wa ⟨HA, hrow⟩
      generalize wr.heap.size = gn at hrow ⊢
      clear q0 q1 q2 q3 q4 q5 q6 q7 HF
      have hlab : s.lab.length ≤ 1048576 := by
        by_cases hz : i = 0
        · subst hz
          have := CK.out.fin.inv.root
          rw [HD.out.1] at this; cases this; simp [rootSt]
        · have hg := CK.out.fin.inv.good i s (by omega) HD.out.1
          exact labLen CK.out.fin CK.out.len (by omega) HD.out.1
      have hh := CK.out.head wa HA.below i s HD.out.1
      have c0 : wa.cell? ⟨gn, 0, none⟩ = some (.string (bs s.lab)) := hrow.cell 0
      have K18 : Hid (∀ w, Calls Try.prog 18 #[.string (bs s.lab)] w fun e w' => e = .returned (.int .u64 (hd s.lab)) ∧ w' = w) := fun w => headOf_w (bs s.lab) w hlab
      have HRA : Hid (Fl N ss w m gf d.first wa ∧ RowAt wa gn 40 #[.string (bs s.lab), .int .i32 (d.first : Int), .int .i32 (d.count : Int), .bool d.dfn, .int .u32 (d.cat : Int), .int .u32 (d.own : Int), .int .u32 (d.all : Int), .int .u32 (bl : Int)]) := ⟨HA, hrow⟩
      generalize hd s.lab = hh0 at *
      have hee : (hh0 != hh0) = false := by simp
      clear HA hrow
      go_quiet ((go_at_call 18; exact Calls.quiet_of_same (K18.out _)))
      go_upto_region 24 with fail
      refine at_world (fun wx => Fl N ss w m gf d.first wx ∧ RowAt wx gn 40 #[.string (bs s.lab), .int .i32 (d.first : Int), .int .i32 (d.count : Int), .bool d.dfn, .int .u32 (d.cat : Int), .int .u32 (d.own : Int), .int .u32 (d.all : Int), .int .u32 (bl : Int)]) ⟨HRA.out.1.below' (below_drewN (Below.refl _ _) _), HRA.out.2.below (below_drewN (Below.refl _ _) _) HRA.out.2.lt⟩ ?_
      rintro wb ⟨HB, hrow⟩
      clear hh c0 HRA K18 hee
      have c0 : wb.cell? ⟨gn, 0, none⟩ = some (.string (bs s.lab)) := hrow.cell 0
      have c1 : wb.cell? ⟨gn, 1, none⟩ = some (.int .i32 (d.first : Int)) := hrow.cell 1
      have c2 : wb.cell? ⟨gn, 2, none⟩ = some (.int .i32 (d.count : Int)) := hrow.cell 2
      have c3 : wb.cell? ⟨gn, 3, none⟩ = some (.bool d.dfn) := hrow.cell 3
      have c4 : wb.cell? ⟨gn, 4, none⟩ = some (.int .u32 (d.cat : Int)) := hrow.cell 4
      have c5 : wb.cell? ⟨gn, 5, none⟩ = some (.int .u32 (d.own : Int)) := hrow.cell 5
      have c6 : wb.cell? ⟨gn, 6, none⟩ = some (.int .u32 (d.all : Int)) := hrow.cell 6
      have hgt := HD.out.2.2.gt
      have hft : d.first + d.count ≤ m := by have := HD.out.2.2.fits; rw [CK.out.fin.sl] at this; exact this
      have w2 : IntKind.i64.wrap (d.first : Int) = (d.first : Int) := wrap_small _ (by omega) (by omega)
      have w3 : IntKind.i64.wrap (d.count : Int) = (d.count : Int) := wrap_small _ (by omega) (by omega)
      have w4 : IntKind.i64.wrap ((i : Int) + 1) = ((i + 1 : Nat) : Int) := by rw [wrap_small _ (by omega) (by omega)]; push_cast; rfl
      replace HB := hid HB
      clear hrow
      by_cases hz : i = 0
      · have hdz : decide (0 < i) = false := decide_eq_false (by omega)
        have hdf : d.dfn = false := by
          subst hz
          have h1 := CK.out.fin.inv.root
          rw [HD.out.1] at h1; cases h1
          rw [HD.out.2.2.dfn]; exact isDfn_root CK.out.hN
        obtain ⟨z1, z2, z3⟩ := HD.out.2.2.no hdf
        rw [hdf] at c3
        rw [z1] at c4
        rw [z2] at c6
        rw [z3] at c5
        have HZ : Hid (i = 0) := hz
        clear hz hdf z1 z2 z3
        go_wp2_with fail
        refine T3 CK.out HD.out.1 HD.out.2.1 wb HB.out _ _ _ _ _ _ _ _ _ _ _ _ _ _ _ _ _ _ _ _ _ _ _ _ _ _ _ _ _ _ _ _ _ _ _ _ _ _ _ _ _ _ _ _ _ _ _ _ _ _ _ _ _ _ _ _ _ _ _ _ _ _ _ _ _ _ _ _ _ _ _ _ _ _ _ _ _ _ _ _ _ _ _ _ _ _ _ _ _ _ _ _ _ _ _ _ _ _ _ _ _ _ _ _ _ _ _ _ _ _ _ _ _ _ _ _ _ _ _ _ _ _ _ _ _ _ _ _ _ _ _ _ _ _ _ _ _ _ _ _ _ _ _ _ _ _ _ _ _ _ _ _ _ _ _ _ _ _ _ _ _ _ _ _ _ _ _ _ _ _ _ _ _ _ _ _ _ _ _ _ _ _ _ _ _ _ _ _ _ _ _ _ _ _ _ _ _ _ _ _ _ _ _ _ _ _ _ _ _ _ _ _ _ _ _ _ _ _ _ _ _ _ _ _ _ _ _ _ _ _ _ _ _ _ _ _ _ _ _ _ _ _ _ _ _ _ _ _ _ _ _ _ _ _ _ _ _ _ _ _ _ _ _ _ _ _ _ _ _ _ _ _ _ _ _ _ _ _ _ _ _ _ _ _ _ _ _ _ _ _ _ _ _ _ _ _ _ _ _ _ _ _ _ _ _ _ _ _ _ _ _ _ _ _ _ _ _ _ _ _ _ _ _ _ _ _ _ _ _ _ _ _ _ _ _ _ _ _ _ _ _ _ _ _ _ _ _ _ _ _ _ _ _ _ _ _ ?_
        intros
        rename_i wz HZ9
        have HZ8 : Hid (Fl N ss w m gf (nx dd (i + 1)) wz) := by rw [HNN.out]; exact HZ9
        clear HZ9
        go_wp2_with fail
        go_roundg g
        case measure => omega
        case rel => exact ⟨i + 1, by go_num, by omega, HZ8.out⟩
      · have hdz : decide (0 < i) = true := decide_eq_true (by omega)
        have hpz : (0 : Int) < (i : Int) := by omega
        have hgd := CK.out.fin.inv.good i s (by omega) HD.out.1
        have K14 : Hid (∀ w, Calls Try.prog 14 #[.string (bs s.lab)] w fun e w' => e = .returned (.bool true) ∧ w' = w) := fun w => by
          have := isDotted_w (bs s.lab) w hlab
          rw [lst_bs, hgd.lab] at this; exact this
        cases hdf : d.dfn with
        | true =>
          rw [hdf] at c3
          clear hz hgd hdf
          go_wp2_with (go_at_call 14; refine keepW (K14.out _) ?_; rintro e rfl)
          refine T3 CK.out HD.out.1 HD.out.2.1 wb HB.out _ _ _ _ _ _ _ _ _ _ _ _ _ _ _ _ _ _ _ _ _ _ _ _ _ _ _ _ _ _ _ _ _ _ _ _ _ _ _ _ _ _ _ _ _ _ _ _ _ _ _ _ _ _ _ _ _ _ _ _ _ _ _ _ _ _ _ _ _ _ _ _ _ _ _ _ _ _ _ _ _ _ _ _ _ _ _ _ _ _ _ _ _ _ _ _ _ _ _ _ _ _ _ _ _ _ _ _ _ _ _ _ _ _ _ _ _ _ _ _ _ _ _ _ _ _ _ _ _ _ _ _ _ _ _ _ _ _ _ _ _ _ _ _ _ _ _ _ _ _ _ _ _ _ _ _ _ _ _ _ _ _ _ _ _ _ _ _ _ _ _ _ _ _ _ _ _ _ _ _ _ _ _ _ _ _ _ _ _ _ _ _ _ _ _ _ _ _ _ _ _ _ _ _ _ _ _ _ _ _ _ _ _ _ _ _ _ _ _ _ _ _ _ _ _ _ _ _ _ _ _ _ _ _ _ _ _ _ _ _ _ _ _ _ _ _ _ _ _ _ _ _ _ _ _ _ _ _ _ _ _ _ _ _ _ _ _ _ _ _ _ _ _ _ _ _ _ _ _ _ _ _ _ _ _ _ _ _ _ _ _ _ _ _ _ _ _ _ _ _ _ _ _ _ _ _ _ _ _ _ _ _ _ _ _ _ _ _ _ _ _ _ _ _ _ _ _ _ _ _ _ _ _ _ _ _ _ _ _ _ _ _ _ _ _ _ _ _ _ _ _ _ _ _ _ _ ?_
          intros
          rename_i wz HZ9
          have HZ8 : Hid (Fl N ss w m gf (nx dd (i + 1)) wz) := by rw [HNN.out]; exact HZ9
          clear HZ9
          go_wp2_with fail
          go_roundg g
          case measure => omega
          case rel => exact ⟨i + 1, by go_num, by omega, HZ8.out⟩
        | false =>
          obtain ⟨z1, z2, z3⟩ := HD.out.2.2.no hdf
          have htwo := HD.out.2.2.two (by omega) hdf
          have hct : ¬ (d.count : Int) < 2 := by omega
          rw [hdf] at c3
          rw [z1] at c4
          rw [z2] at c6
          rw [z3] at c5
          clear hz hgd hdf z1 z2 z3
          go_wp2_with (go_at_call 14; refine keepW (K14.out _) ?_; rintro e rfl)
          refine T3 CK.out HD.out.1 HD.out.2.1 wb HB.out _ _ _ _ _ _ _ _ _ _ _ _ _ _ _ _ _ _ _ _ _ _ _ _ _ _ _ _ _ _ _ _ _ _ _ _ _ _ _ _ _ _ _ _ _ _ _ _ _ _ _ _ _ _ _ _ _ _ _ _ _ _ _ _ _ _ _ _ _ _ _ _ _ _ _ _ _ _ _ _ _ _ _ _ _ _ _ _ _ _ _ _ _ _ _ _ _ _ _ _ _ _ _ _ _ _ _ _ _ _ _ _ _ _ _ _ _ _ _ _ _ _ _ _ _ _ _ _ _ _ _ _ _ _ _ _ _ _ _ _ _ _ _ _ _ _ _ _ _ _ _ _ _ _ _ _ _ _ _ _ _ _ _ _ _ _ _ _ _ _ _ _ _ _ _ _ _ _ _ _ _ _ _ _ _ _ _ _ _ _ _ _ _ _ _ _ _ _ _ _ _ _ _ _ _ _ _ _ _ _ _ _ _ _ _ _ _ _ _ _ _ _ _ _ _ _ _ _ _ _ _ _ _ _ _ _ _ _ _ _ _ _ _ _ _ _ _ _ _ _ _ _ _ _ _ _ _ _ _ _ _ _ _ _ _ _ _ _ _ _ _ _ _ _ _ _ _ _ _ _ _ _ _ _ _ _ _ _ _ _ _ _ _ _ _ _ _ _ _ _ _ _ _ _ _ _ _ _ _ _ _ _ _ _ _ _ _ _ _ _ _ _ _ _ _ _ _ _ _ _ _ _ _ _ _ _ _ _ _ _ _ _ _ _ _ _ _ _ _ _ _ _ _ _ _ _ ?_
          intros
          rename_i wz HZ9
          have HZ8 : Hid (Fl N ss w m gf (nx dd (i + 1)) wz) := by rw [HNN.out]; exact HZ9
          clear HZ9
          go_wp2_with fail
          go_roundg g
          case measure => omega
          case rel => exact ⟨i + 1, by go_num, by omega, HZ8.out⟩

end Go.Proofs.Qxb6600888a
