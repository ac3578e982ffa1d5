import Derived.Test.Qxb6600888aTr5
namespace Go.Proofs.Qxb6600888a
open Go.RowKit
set_option linter.unusedVariables false
set_option linter.unusedSimpArgs false

noncomputable def tbody4 : Code := ((Try.f12.body.map loops).getD []).getD 3 .skip

set_option maxHeartbeats 8000000 in
set_option maxRecDepth 1000000 in
theorem T4 {N : List Str} {C A : List Nat} {w : World} {n m : Nat} {ss : List St} {dd : List Dy} {nv : List Nv} {go gH cH gC gA cn gf gs cs : Nat} {an : Option Addr} (ck : Ck N C A w n m ss dd nv go gH gC gA an) (wr : World) (h0 : SK N ss w m gf gs cs [0] wr)
    (K : Act → World → Prop) (Rr : Ending → World → Prop) (u5 u6 u7 u8 u9 u10 u12 u13 u14 u16 u17 u18 u19 u20 u21 u24 u25 u26 u27 u28 u29 u30 u31 u32 u33 u34 u35 u36 u37 u38 u39 u40 u41 u42 u43 u44 u45 u46 u47 u48 u49 u50 u51 u52 u53 u54 u55 u56 u57 u58 u59 u60 u61 u62 u63 u64 u65 u66 u67 u68 u69 u70 u71 u72 u73 u74 u75 u76 u77 u78 u79 u80 u81 u82 u83 u84 u85 u86 u87 u88 u89 u90 u91 u92 u93 u94 u95 u96 u97 u98 u99 u100 u101 u102 u103 u104 u105 u106 u107 u108 u109 u110 u111 u112 u113 u114 u115 u116 u117 u118 u119 u120 u121 u122 u123 u124 u125 u126 u127 u128 u129 u130 u131 u132 u133 u134 u135 u136 u137 u138 u139 u140 u141 u142 u143 u144 u145 u146 u147 u148 u149 u150 u151 u152 u153 u154 u155 u156 u157 u158 u159 u160 u161 u162 u163 u164 u165 u166 u167 u168 u169 u170 u171 u172 u173 u174 u175 u176 u177 u178 u179 u180 u181 u182 u183 u184 u185 u186 u187 u188 u189 u190 u191 u192 u193 u194 u195 u196 u197 u198 u199 u200 u201 u202 u203 u204 u205 u206 u207 u208 u209 u210 u211 u212 u213 u214 u215 u216 u217 u218 u219 u220 u221 u222 u223 u224 u225 u226 u227 u228 u229 u230 u231 u232 u233 u234 u235 u236 u237 u238 u239 u240 u241 u242 u243 u244 u245 u246 u247 u248 u249 u250 u251 u252 u253 u254 u255 u256 u257 u258 u259 u260 u261 u262 u263 u264 u265 u266 u267 u268 u269 u270 u271 u272 u273 u274 u275 u276 u277 u278 u279 u280 u281 u282 u283 u284 u285 u286 u287 u288 u289 u290 u291 u292 u293 u294 u295 u296 u297 u298 u299 u300 u301 u302 u303 u304 u305 u306 u307 u308 u309 u310 u311 u312 u313 u314 u315 u316 u317 u318 u319 u320 u321 u322 u323 u324 u325 u326 u327 u328 u329 u330 u331 u332 u333 u334 u335 u336 u337 u338 u339 u340 u341 u342 u343 u344 u345 u346 u347 u348 u349 u350 u351 u352 u353 u354 u355 u356 u357 u358 u359 u360 u361 u362 u363 u364 u365 : Value)
    (hexit : ∀ (x10 x22 x24 x25 x26 x243 x244 x245 x246 x247 x248 x249 x250 x251 x252 x253 x254 x255 x256 x257 x258 x259 x260 x261 x262 x263 x264 x265 x266 x267 x268 x269 x270 x271 x272 x273 x274 x275 x276 x277 x278 x279 x280 x281 x282 x283 x284 x285 x286 x287 x288 x289 x290 x291 x292 x293 x294 x295 x296 x297 x298 x299 x300 x301 x302 x303 x304 x305 x306 x307 x308 x309 x310 x311 x312 x313 x314 x315 x316 x317 x318 x319 x320 x321 x322 x323 x324 x325 x326 x327 x328 : Value) (wz : World), Fl N ss w m gf m wz → K ⟨List.toArray ((Value.slice (some ⟨go, 0, none⟩) m m) :: (Value.slice (some ⟨gH, 0, none⟩) m cH) :: (Value.slice an n cn) :: (Value.slice (some ⟨gC, 0, none⟩) n n) :: (Value.slice (some ⟨gA, 0, none⟩) n n) :: u5 :: u6 :: u7 :: u8 :: u9 :: x10 :: (Value.int .i64 (m : Int)) :: u12 :: u13 :: u14 :: (Value.slice (some ⟨gf, 0, none⟩) m m) :: u16 :: u17 :: u18 :: u19 :: u20 :: u21 :: x22 :: (Value.int .i64 (n : Int)) :: x24 :: x25 :: x26 :: u27 :: u28 :: u29 :: u30 :: u31 :: u32 :: u33 :: u34 :: u35 :: u36 :: u37 :: u38 :: u39 :: u40 :: u41 :: u42 :: u43 :: u44 :: u45 :: u46 :: u47 :: u48 :: u49 :: u50 :: u51 :: u52 :: u53 :: u54 :: u55 :: u56 :: u57 :: u58 :: u59 :: u60 :: u61 :: u62 :: u63 :: u64 :: u65 :: u66 :: u67 :: u68 :: u69 :: u70 :: u71 :: u72 :: u73 :: u74 :: u75 :: u76 :: u77 :: u78 :: u79 :: u80 :: u81 :: u82 :: u83 :: u84 :: u85 :: u86 :: u87 :: u88 :: u89 :: u90 :: u91 :: u92 :: u93 :: u94 :: u95 :: u96 :: u97 :: u98 :: u99 :: u100 :: u101 :: u102 :: u103 :: u104 :: u105 :: u106 :: u107 :: u108 :: u109 :: u110 :: u111 :: u112 :: u113 :: u114 :: u115 :: u116 :: u117 :: u118 :: u119 :: u120 :: u121 :: u122 :: u123 :: u124 :: u125 :: u126 :: u127 :: u128 :: u129 :: u130 :: u131 :: u132 :: u133 :: u134 :: u135 :: u136 :: u137 :: u138 :: u139 :: u140 :: u141 :: u142 :: u143 :: u144 :: u145 :: u146 :: u147 :: u148 :: u149 :: u150 :: u151 :: u152 :: u153 :: u154 :: u155 :: u156 :: u157 :: u158 :: u159 :: u160 :: u161 :: u162 :: u163 :: u164 :: u165 :: u166 :: u167 :: u168 :: u169 :: u170 :: u171 :: u172 :: u173 :: u174 :: u175 :: u176 :: u177 :: u178 :: u179 :: u180 :: u181 :: u182 :: u183 :: u184 :: u185 :: u186 :: u187 :: u188 :: u189 :: u190 :: u191 :: u192 :: u193 :: u194 :: u195 :: u196 :: u197 :: u198 :: u199 :: u200 :: u201 :: u202 :: u203 :: u204 :: u205 :: u206 :: u207 :: u208 :: u209 :: u210 :: u211 :: u212 :: u213 :: u214 :: u215 :: u216 :: u217 :: u218 :: u219 :: u220 :: u221 :: u222 :: u223 :: u224 :: u225 :: u226 :: u227 :: u228 :: u229 :: u230 :: u231 :: u232 :: u233 :: u234 :: u235 :: u236 :: u237 :: u238 :: u239 :: u240 :: u241 :: u242 :: x243 :: x244 :: x245 :: x246 :: x247 :: x248 :: x249 :: x250 :: x251 :: x252 :: x253 :: x254 :: x255 :: x256 :: x257 :: x258 :: x259 :: x260 :: x261 :: x262 :: x263 :: x264 :: x265 :: x266 :: x267 :: x268 :: x269 :: x270 :: x271 :: x272 :: x273 :: x274 :: x275 :: x276 :: x277 :: x278 :: x279 :: x280 :: x281 :: x282 :: x283 :: x284 :: x285 :: x286 :: x287 :: x288 :: x289 :: x290 :: x291 :: x292 :: x293 :: x294 :: x295 :: x296 :: x297 :: x298 :: x299 :: x300 :: x301 :: x302 :: x303 :: x304 :: x305 :: x306 :: x307 :: x308 :: x309 :: x310 :: x311 :: x312 :: x313 :: x314 :: x315 :: x316 :: x317 :: x318 :: x319 :: x320 :: x321 :: x322 :: x323 :: x324 :: x325 :: x326 :: x327 :: x328 :: u329 :: u330 :: u331 :: u332 :: u333 :: u334 :: u335 :: u336 :: u337 :: u338 :: u339 :: u340 :: u341 :: u342 :: u343 :: u344 :: u345 :: u346 :: u347 :: u348 :: u349 :: u350 :: u351 :: u352 :: u353 :: u354 :: u355 :: u356 :: u357 :: u358 :: u359 :: u360 :: u361 :: u362 :: u363 :: u364 :: u365 :: []), []⟩ wz) :
    Code.wp Try.prog (Code.loop tbody4) (Exit.inBlock 6 (Exit.then K (bodyPost Try.prog Try.f12 Rr))) ⟨List.toArray ((Value.slice (some ⟨go, 0, none⟩) m m) :: (Value.slice (some ⟨gH, 0, none⟩) m cH) :: (Value.slice an n cn) :: (Value.slice (some ⟨gC, 0, none⟩) n n) :: (Value.slice (some ⟨gA, 0, none⟩) n n) :: u5 :: u6 :: u7 :: u8 :: u9 :: u10 :: (Value.int .i64 (m : Int)) :: u12 :: u13 :: u14 :: (Value.slice (some ⟨gf, 0, none⟩) m m) :: u16 :: u17 :: u18 :: u19 :: u20 :: u21 :: (Value.slice (some ⟨gs, 0, none⟩) 1 cs) :: (Value.int .i64 (0 : Int)) :: u24 :: u25 :: u26 :: u27 :: u28 :: u29 :: u30 :: u31 :: u32 :: u33 :: u34 :: u35 :: u36 :: u37 :: u38 :: u39 :: u40 :: u41 :: u42 :: u43 :: u44 :: u45 :: u46 :: u47 :: u48 :: u49 :: u50 :: u51 :: u52 :: u53 :: u54 :: u55 :: u56 :: u57 :: u58 :: u59 :: u60 :: u61 :: u62 :: u63 :: u64 :: u65 :: u66 :: u67 :: u68 :: u69 :: u70 :: u71 :: u72 :: u73 :: u74 :: u75 :: u76 :: u77 :: u78 :: u79 :: u80 :: u81 :: u82 :: u83 :: u84 :: u85 :: u86 :: u87 :: u88 :: u89 :: u90 :: u91 :: u92 :: u93 :: u94 :: u95 :: u96 :: u97 :: u98 :: u99 :: u100 :: u101 :: u102 :: u103 :: u104 :: u105 :: u106 :: u107 :: u108 :: u109 :: u110 :: u111 :: u112 :: u113 :: u114 :: u115 :: u116 :: u117 :: u118 :: u119 :: u120 :: u121 :: u122 :: u123 :: u124 :: u125 :: u126 :: u127 :: u128 :: u129 :: u130 :: u131 :: u132 :: u133 :: u134 :: u135 :: u136 :: u137 :: u138 :: u139 :: u140 :: u141 :: u142 :: u143 :: u144 :: u145 :: u146 :: u147 :: u148 :: u149 :: u150 :: u151 :: u152 :: u153 :: u154 :: u155 :: u156 :: u157 :: u158 :: u159 :: u160 :: u161 :: u162 :: u163 :: u164 :: u165 :: u166 :: u167 :: u168 :: u169 :: u170 :: u171 :: u172 :: u173 :: u174 :: u175 :: u176 :: u177 :: u178 :: u179 :: u180 :: u181 :: u182 :: u183 :: u184 :: u185 :: u186 :: u187 :: u188 :: u189 :: u190 :: u191 :: u192 :: u193 :: u194 :: u195 :: u196 :: u197 :: u198 :: u199 :: u200 :: u201 :: u202 :: u203 :: u204 :: u205 :: u206 :: u207 :: u208 :: u209 :: u210 :: u211 :: u212 :: u213 :: u214 :: u215 :: u216 :: u217 :: u218 :: u219 :: u220 :: u221 :: u222 :: u223 :: u224 :: u225 :: u226 :: u227 :: u228 :: u229 :: u230 :: u231 :: u232 :: u233 :: u234 :: u235 :: u236 :: u237 :: u238 :: u239 :: u240 :: u241 :: u242 :: u243 :: u244 :: u245 :: u246 :: u247 :: u248 :: u249 :: u250 :: u251 :: u252 :: u253 :: u254 :: u255 :: u256 :: u257 :: u258 :: u259 :: u260 :: u261 :: u262 :: u263 :: u264 :: u265 :: u266 :: u267 :: u268 :: u269 :: u270 :: u271 :: u272 :: u273 :: u274 :: u275 :: u276 :: u277 :: u278 :: u279 :: u280 :: u281 :: u282 :: u283 :: u284 :: u285 :: u286 :: u287 :: u288 :: u289 :: u290 :: u291 :: u292 :: u293 :: u294 :: u295 :: u296 :: u297 :: u298 :: u299 :: u300 :: u301 :: u302 :: u303 :: u304 :: u305 :: u306 :: u307 :: u308 :: u309 :: u310 :: u311 :: u312 :: u313 :: u314 :: u315 :: u316 :: u317 :: u318 :: u319 :: u320 :: u321 :: u322 :: u323 :: u324 :: u325 :: u326 :: u327 :: u328 :: u329 :: u330 :: u331 :: u332 :: u333 :: u334 :: u335 :: u336 :: u337 :: u338 :: u339 :: u340 :: u341 :: u342 :: u343 :: u344 :: u345 :: u346 :: u347 :: u348 :: u349 :: u350 :: u351 :: u352 :: u353 :: u354 :: u355 :: u356 :: u357 :: u358 :: u359 :: u360 :: u361 :: u362 :: u363 :: u364 :: u365 :: []), []⟩ wr := by
  have CK : Hid (Ck N C A w n m ss dd nv go gH gC gA an) := ck
  have H0 : Hid (SK N ss w m gf gs cs [0] wr) := h0
  have HST : Hid (Stk ss [0] 0 n) := by
    refine ⟨rootSt N, ck.fin.inv.root, rfl, ?_⟩
    exact ck.hn
  have HEX : Hid (∀ (x10 x22 x24 x25 x26 x243 x244 x245 x246 x247 x248 x249 x250 x251 x252 x253 x254 x255 x256 x257 x258 x259 x260 x261 x262 x263 x264 x265 x266 x267 x268 x269 x270 x271 x272 x273 x274 x275 x276 x277 x278 x279 x280 x281 x282 x283 x284 x285 x286 x287 x288 x289 x290 x291 x292 x293 x294 x295 x296 x297 x298 x299 x300 x301 x302 x303 x304 x305 x306 x307 x308 x309 x310 x311 x312 x313 x314 x315 x316 x317 x318 x319 x320 x321 x322 x323 x324 x325 x326 x327 x328 : Value) (wz : World), Fl N ss w m gf m wz → K ⟨List.toArray ((Value.slice (some ⟨go, 0, none⟩) m m) :: (Value.slice (some ⟨gH, 0, none⟩) m cH) :: (Value.slice an n cn) :: (Value.slice (some ⟨gC, 0, none⟩) n n) :: (Value.slice (some ⟨gA, 0, none⟩) n n) :: u5 :: u6 :: u7 :: u8 :: u9 :: x10 :: (Value.int .i64 (m : Int)) :: u12 :: u13 :: u14 :: (Value.slice (some ⟨gf, 0, none⟩) m m) :: u16 :: u17 :: u18 :: u19 :: u20 :: u21 :: x22 :: (Value.int .i64 (n : Int)) :: x24 :: x25 :: x26 :: u27 :: u28 :: u29 :: u30 :: u31 :: u32 :: u33 :: u34 :: u35 :: u36 :: u37 :: u38 :: u39 :: u40 :: u41 :: u42 :: u43 :: u44 :: u45 :: u46 :: u47 :: u48 :: u49 :: u50 :: u51 :: u52 :: u53 :: u54 :: u55 :: u56 :: u57 :: u58 :: u59 :: u60 :: u61 :: u62 :: u63 :: u64 :: u65 :: u66 :: u67 :: u68 :: u69 :: u70 :: u71 :: u72 :: u73 :: u74 :: u75 :: u76 :: u77 :: u78 :: u79 :: u80 :: u81 :: u82 :: u83 :: u84 :: u85 :: u86 :: u87 :: u88 :: u89 :: u90 :: u91 :: u92 :: u93 :: u94 :: u95 :: u96 :: u97 :: u98 :: u99 :: u100 :: u101 :: u102 :: u103 :: u104 :: u105 :: u106 :: u107 :: u108 :: u109 :: u110 :: u111 :: u112 :: u113 :: u114 :: u115 :: u116 :: u117 :: u118 :: u119 :: u120 :: u121 :: u122 :: u123 :: u124 :: u125 :: u126 :: u127 :: u128 :: u129 :: u130 :: u131 :: u132 :: u133 :: u134 :: u135 :: u136 :: u137 :: u138 :: u139 :: u140 :: u141 :: u142 :: u143 :: u144 :: u145 :: u146 :: u147 :: u148 :: u149 :: u150 :: u151 :: u152 :: u153 :: u154 :: u155 :: u156 :: u157 :: u158 :: u159 :: u160 :: u161 :: u162 :: u163 :: u164 :: u165 :: u166 :: u167 :: u168 :: u169 :: u170 :: u171 :: u172 :: u173 :: u174 :: u175 :: u176 :: u177 :: u178 :: u179 :: u180 :: u181 :: u182 :: u183 :: u184 :: u185 :: u186 :: u187 :: u188 :: u189 :: u190 :: u191 :: u192 :: u193 :: u194 :: u195 :: u196 :: u197 :: u198 :: u199 :: u200 :: u201 :: u202 :: u203 :: u204 :: u205 :: u206 :: u207 :: u208 :: u209 :: u210 :: u211 :: u212 :: u213 :: u214 :: u215 :: u216 :: u217 :: u218 :: u219 :: u220 :: u221 :: u222 :: u223 :: u224 :: u225 :: u226 :: u227 :: u228 :: u229 :: u230 :: u231 :: u232 :: u233 :: u234 :: u235 :: u236 :: u237 :: u238 :: u239 :: u240 :: u241 :: u242 :: x243 :: x244 :: x245 :: x246 :: x247 :: x248 :: x249 :: x250 :: x251 :: x252 :: x253 :: x254 :: x255 :: x256 :: x257 :: x258 :: x259 :: x260 :: x261 :: x262 :: x263 :: x264 :: x265 :: x266 :: x267 :: x268 :: x269 :: x270 :: x271 :: x272 :: x273 :: x274 :: x275 :: x276 :: x277 :: x278 :: x279 :: x280 :: x281 :: x282 :: x283 :: x284 :: x285 :: x286 :: x287 :: x288 :: x289 :: x290 :: x291 :: x292 :: x293 :: x294 :: x295 :: x296 :: x297 :: x298 :: x299 :: x300 :: x301 :: x302 :: x303 :: x304 :: x305 :: x306 :: x307 :: x308 :: x309 :: x310 :: x311 :: x312 :: x313 :: x314 :: x315 :: x316 :: x317 :: x318 :: x319 :: x320 :: x321 :: x322 :: x323 :: x324 :: x325 :: x326 :: x327 :: x328 :: u329 :: u330 :: u331 :: u332 :: u333 :: u334 :: u335 :: u336 :: u337 :: u338 :: u339 :: u340 :: u341 :: u342 :: u343 :: u344 :: u345 :: u346 :: u347 :: u348 :: u349 :: u350 :: u351 :: u352 :: u353 :: u354 :: u355 :: u356 :: u357 :: u358 :: u359 :: u360 :: u361 :: u362 :: u363 :: u364 :: u365 :: []), []⟩ wz) := hexit
  have hmb := ck.mb
  have hn4 := ck.hn4
  have hSW0 : SW n ss [0] = 2 * n + 1 := by simp [SW, ck.fin.inv.root, wk]
  replace hSW0 := hid hSW0
  clear ck h0 hexit
  conv => arg 2; arg 1; whnf
  go_loopg [22, 23] (2 * n + 1) (fun g v22 v23 wx => ∃ (l : List Nat) (gs cs L lo : Nat), v22 = .slice (some ⟨gs, 0, none⟩) L cs ∧ v23 = .int .i64 (lo : Int) ∧ L = l.length ∧ SW n ss l = g ∧ g ≤ 2 * n + 1 ∧ Stk ss l lo n ∧ SK N ss w m gf gs cs l wx)
  case atStart => exact ⟨[0], gs, cs, 1, 0, rfl, rfl, rfl, hSW0.out, Nat.le_refl _, HST.out, H0.out⟩
  case round =>
    obtain ⟨l, gs, cs, L, lo, rfl, rfl, hL, hSW, hg, hST, hS⟩ := hrel
    cases l with
    | nil =>
      have hlo : lo = n := hST
      subst hlo
      simp at hL
      subst hL
      have HF : Hid (Fl N ss w m gf m wr) := hS.fl
      clear hS hST hSW
      go_wp2_with fail
      exact HEX.out _ _ _ _ _ _ _ _ _ _ _ _ _ _ _ _ _ _ _ _ _ _ _ _ _ _ _ _ _ _ _ _ _ _ _ _ _ _ _ _ _ _ _ _ _ _ _ _ _ _ _ _ _ _ _ _ _ _ _ _ _ _ _ _ _ _ _ _ _ _ _ _ _ _ _ _ _ _ _ _ _ _ _ _ _ _ _ _ _ _ _ wr HF.out
    | cons k l =>
      have hkm : k < m := by rw [← CK.out.fin.sl]; exact hST.lt k (by simp)
      obtain ⟨s, d, hs, hd, hslo, hST2, hSW2⟩ := stack_step CK.out.fin CK.out.hN CK.out.hn hST hkm
      have hdn := CK.out.fin.inv.done k s d hs hd
      have hv := CK.out.fin.at_ k s d hs hd
      have hlen2 := SW_len (n := n) CK.out.fin hST
      obtain ⟨L', hL'⟩ : ∃ L', L' = l.length := ⟨_, rfl⟩
      have hLL : L = L' + 1 := by rw [hL, hL']; rfl
      subst hLL
      have hL9 : L' ≤ 9000 := by simp at hlen2; omega
      have hcap := (own_at hS.own)
      obtain ⟨_, cur, _, _, hcc1, hcc2, _⟩ := hcap
      have hcs : L' + 1 ≤ cs := by simp at hcc1; omega
      have htop : wr.cell? ⟨gs, L', none⟩ = some (.int .i64 (k : Int)) := by rw [hL']; exact hS.top
      have hpop := fun w => pop_slice gs L' cs hcs hcc2 w
      have q : ∀ f, f < 8 → wr.cell? ⟨go, k * 8 + f, none⟩ = (ndc (nvOf s d (orA A (lo' N s) s.hi)))[f]? := fun f hf => CK.out.node wr hS.fl.below k _ hv f hf
      obtain ⟨bl, hbl⟩ : ∃ bl, orA A (lo' N s) s.hi = bl := ⟨_, rfl⟩
      rw [hbl] at q
      have q0 : wr.cell? ⟨go, k * 8, none⟩ = some (.string (bs s.lab)) := q 0 (by omega)
      have q1 : wr.cell? ⟨go, k * 8 + 1, none⟩ = some (.int .i32 (d.first : Int)) := q 1 (by omega)
      have q2 : wr.cell? ⟨go, k * 8 + 2, none⟩ = some (.int .i32 (d.count : Int)) := q 2 (by omega)
      have q3 : wr.cell? ⟨go, k * 8 + 3, none⟩ = some (.bool d.dfn) := q 3 (by omega)
      have q4 : wr.cell? ⟨go, k * 8 + 4, none⟩ = some (.int .u32 (d.cat : Int)) := q 4 (by omega)
      have q5 : wr.cell? ⟨go, k * 8 + 5, none⟩ = some (.int .u32 (d.own : Int)) := q 5 (by omega)
      have q6 : wr.cell? ⟨go, k * 8 + 6, none⟩ = some (.int .u32 (d.all : Int)) := q 6 (by omega)
      have q7 : wr.cell? ⟨go, k * 8 + 7, none⟩ = some (.int .u32 (bl : Int)) := q 7 (by omega)
      have hft : d.first + d.count ≤ m := by have := hdn.fits; rw [CK.out.fin.sl] at this; exact this
      have hgt := hdn.gt
      have hki : (k : Int) < (m : Int) := by omega
      have hk0 : (0 : Int) ≤ (k : Int) := by omega
      have hLi : (L' : Int) < ((L' + 1 : Nat) : Int) := by omega
      have hL0 : (0 : Int) ≤ (L' : Int) := by omega
      have hLp : (0 : Int) < ((L' + 1 : Nat) : Int) := by omega
      have wL : IntKind.i64.wrap (((L' + 1 : Nat) : Int) - 1) = (L' : Int) := by rw [wrap_small _ (by omega) (by omega)]; omega
      obtain ⟨LL, hLLe⟩ : ∃ LL, LL = L' + 1 := ⟨_, rfl⟩
      rw [← hLLe] at hpop hLi hLp wL ⊢
      have HS : Hid (SK N ss w m gf gs cs l wr) := hS.pop
      have HST2 : Hid (Stk ss ((List.range d.count).map (d.first + ·) ++ l) (lo' N s) n ∧ SW n ss ((List.range d.count).map (d.first + ·) ++ l) < gk) := ⟨hST2, by rw [← hSW]; exact hSW2⟩
      have HD : Hid (ss[k]? = some s ∧ dd[k]? = some d ∧ Done N C A ss k s d ∧ s.lo = lo ∧ l.length = L') := ⟨hs, hd, hdn, hslo, hL'.symm⟩
      replace hLLe := hid hLLe
      clear q hS hv hbl hs hd hdn hST2 hSW2 hST hSW hL hL' hcc1 hcc2 hlen2 hslo
      go_upto_region 47 with fail
      refine at_world (fun wx => SK N ss w m gf gs cs l wx ∧ RowAt wx wr.heap.size 40 #[.string (bs s.lab), .int .i32 (d.first : Int), .int .i32 (d.count : Int), .bool d.dfn, .int .u32 (d.cat : Int), .int .u32 (d.own : Int), .int .u32 (d.all : Int), .int .u32 (bl : Int)]) ⟨HS.out.below' ((Below.refl _ _).alloc (Nat.le_refl _) _), RowAt.new _ _ _⟩ ?_
      rintro wa ⟨HA, hrow⟩
      generalize wr.heap.size = gn at hrow ⊢
      clear q0 q1 q2 q3 q4 q5 q6 q7 HS htop hpop
      have c1 : wa.cell? ⟨gn, 1, none⟩ = some (.int .i32 (d.first : Int)) := hrow.cell 1
      have c2 : wa.cell? ⟨gn, 2, none⟩ = some (.int .i32 (d.count : Int)) := hrow.cell 2
      have c3 : wa.cell? ⟨gn, 3, none⟩ = some (.bool d.dfn) := hrow.cell 3
      have c4 : wa.cell? ⟨gn, 4, none⟩ = some (.int .u32 (d.cat : Int)) := hrow.cell 4
      have c5 : wa.cell? ⟨gn, 5, none⟩ = some (.int .u32 (d.own : Int)) := hrow.cell 5
      have c6 : wa.cell? ⟨gn, 6, none⟩ = some (.int .u32 (d.all : Int)) := hrow.cell 6
      have w2 : IntKind.i64.wrap (d.first : Int) = (d.first : Int) := wrap_small _ (by omega) (by omega)
      have w3 : IntKind.i64.wrap (d.count : Int) = (d.count : Int) := wrap_small _ (by omega) (by omega)
      have w4 : IntKind.i64.wrap ((d.first : Int) + (d.count : Int)) = (d.first : Int) + (d.count : Int) := wrap_small _ (by omega) (by omega)
      have w5 : IntKind.i64.wrap ((d.first : Int) + (d.count : Int) - 1) = (d.first : Int) + (d.count : Int) - 1 := by rw [IntKind.wrap_i64]; omega
      have HAR : Hid (SK N ss w m gf gs cs l wa ∧ RowAt wa gn 40 #[.string (bs s.lab), .int .i32 (d.first : Int), .int .i32 (d.count : Int), .bool d.dfn, .int .u32 (d.cat : Int), .int .u32 (d.own : Int), .int .u32 (d.all : Int), .int .u32 (bl : Int)]) := ⟨HA, hrow⟩
      have hfull := HA.fl.cell hkm
      rw [if_pos hkm] at hfull
      clear HA hrow
      cases hdf : d.dfn with
      | false =>
        rw [hdf] at c3 HAR
        have hl0 : Hid (lo' N s = lo) := by show _ = _; unfold lo'; rw [← HD.out.2.2.1.dfn, hdf]; exact HD.out.2.2.2.1
        clear hdf c4 c5 c6 hfull
        go_wp2_with fail
        refine T5 HD.out.2.2.2.2 hL9 (by omega) (by omega) wa HAR.out.1 HAR.out.2 rfl _ _ _ _ _ _ _ _ _ _ _ _ _ _ _ _ _ _ _ _ _ _ _ _ _ _ _ _ _ _ _ _ _ _ _ _ _ _ _ _ _ _ _ _ _ _ _ _ _ _ _ _ _ _ _ _ _ _ _ _ _ _ _ _ _ _ _ _ _ _ _ _ _ _ _ _ _ _ _ _ _ _ _ _ _ _ _ _ _ _ _ _ _ _ _ _ _ _ _ _ _ _ _ _ _ _ _ _ _ _ _ _ _ _ _ _ _ _ _ _ _ _ _ _ _ _ _ _ _ _ _ _ _ _ _ _ _ _ _ _ _ _ _ _ _ _ _ _ _ _ _ _ _ _ _ _ _ _ _ _ _ _ _ _ _ _ _ _ _ _ _ _ _ _ _ _ _ _ _ _ _ _ _ _ _ _ _ _ _ _ _ _ _ _ _ _ _ _ _ _ _ _ _ _ _ _ _ _ _ _ _ _ _ _ _ _ _ _ _ _ _ _ _ _ _ _ _ _ _ _ _ _ _ _ _ _ _ _ _ _ _ _ _ _ _ _ _ _ _ _ _ _ _ _ _ _ _ _ _ _ _ _ _ _ _ _ _ _ _ _ _ _ _ _ _ _ _ _ _ _ _ _ _ _ _ _ _ _ _ _ _ _ _ _ _ _ _ _ _ _ _ _ _ _ _ _ _ _ _ _ _ _ _ _ _ _ _ _ _ _ _ _ _ _ _ _ _ _ _ _ _ _ _ _ _ _ _ _ _ _ _ _ _ _ _ _ _ _ _ _ _ _ _ _ _ _ _ ?_
        intros
        rename_i gs' cs' L2 wz HZ hLz
        have HZ8 : Hid (SK N ss w m gf gs' cs' ((List.range d.count).map (d.first + ·) ++ l) wz ∧ L2 = ((List.range d.count).map (d.first + ·) ++ l).length) := ⟨HZ, hLz⟩
        clear HZ hLz
        go_wp2_with fail
        go_roundg (SW n ss ((List.range d.count).map (d.first + ·) ++ l))
        case measure => exact HST2.out.2
        case rel => exact ⟨_, gs', cs', L2, lo, rfl, rfl, HZ8.out.2, rfl, by have := HST2.out.2; omega, by rw [← hl0.out]; exact HST2.out.1, HZ8.out.1⟩
      | true =>
        obtain ⟨y1, y2, y3⟩ := HD.out.2.2.1.yes hdf
        have hkz : k ≠ 0 := by
          rintro rfl
          have h1 := CK.out.fin.inv.root
          rw [HD.out.1] at h1; cases h1
          have := HD.out.2.2.1.dfn
          rw [isDfn_root CK.out.hN, hdf] at this; cases this
        have hgd := CK.out.fin.inv.good k s (by omega) HD.out.1
        have hisd : isDfn N s = true := by rw [← HD.out.2.2.1.dfn]; exact hdf
        have hnm : fu N ss k = nm N lo := by
          unfold fu; rw [HD.out.1]; unfold fullOf; simp only []; rw [if_neg hkz, ← full_eq hgd hisd, HD.out.2.2.2.1]
        rw [hnm] at hfull
        have hlon : lo < n := by have h1 := hgd.lt; have h2 := hgd.hin; have h3 := CK.out.hn; have h4 := HD.out.2.2.2.1; omega
        rw [HD.out.2.2.2.1] at y1 y2 y3
        obtain ⟨b, off, han, hnc⟩ := CK.out.name wa HAR.out.1.fl.below lo hlon
        have hcc := CK.out.cat wa HAR.out.1.fl.below lo hlon
        have hca := CK.out.all wa HAR.out.1.fl.below lo hlon
        obtain ⟨cc, hce⟩ : ∃ cc, C.getD lo 0 = cc := ⟨_, rfl⟩
        obtain ⟨aa, hae⟩ : ∃ aa, A.getD lo 0 = aa := ⟨_, rfl⟩
        rw [hce] at hcc y1 y3
        rw [hae] at hca y2 y3
        obtain ⟨oo, hoe⟩ : ∃ oo : Nat, (if cc = 2147483648 then aa else cc) = oo := ⟨_, rfl⟩
        rw [hoe] at y3
        rw [hdf] at c3 HAR
        rw [y1] at c4
        rw [y2] at c6
        rw [y3] at c5
        have K20 : Hid (∀ w, Calls Try.prog 20 #[.int .u32 (cc : Int), .int .u32 (aa : Int)] w fun e w' => e = .returned (.int .u32 (oo : Int)) ∧ w' = w) := fun w => by
          have := ownOf_w cc aa w
          have e : (if (cc : Int) = 2147483648 then (aa : Int) else (cc : Int)) = (oo : Int) := by
            rw [← hoe]
            by_cases hh : cc = 2147483648
            · rw [if_pos hh, if_pos (by omega)]
            · rw [if_neg hh, if_neg (by omega)]
          rw [e] at this; exact this
        have HCA : ∀ wx, Below w.heap.size w wx → wx.cell? ⟨gC, lo, none⟩ = some (.int .u32 (cc : Int)) ∧ wx.cell? ⟨gA, lo, none⟩ = some (.int .u32 (aa : Int)) := fun wx hb => ⟨by rw [CK.out.cat wx hb lo hlon, hce], by rw [CK.out.all wx hb lo hlon, hae]⟩
        have HYY : d.cat = cc ∧ d.all = aa ∧ d.own = oo := ⟨y1, y2, y3⟩
        have hl0 : Hid (lo' N s = lo + 1) := by show _ = _; unfold lo'; rw [hisd, HD.out.2.2.2.1]; rfl
        have hdn0 : decide (n ≤ lo) = false := decide_eq_false (by omega)
        have hlni : (lo : Int) < (n : Int) := by omega
        have hlo0 : (0 : Int) ≤ (lo : Int) := by omega
        have wlo : IntKind.i64.wrap ((lo : Int) + 1) = ((lo + 1 : Nat) : Int) := by rw [wrap_small _ (by omega) (by omega)]; push_cast; rfl
        generalize bs (nm N lo) = bn at *
        have hbb : (bn.toList == bn.toList) = true := by simp
        have e1 : ((cc : Int) != (cc : Int)) = false := by simp
        have e2 : ((aa : Int) != (aa : Int)) = false := by simp
        have e3 : ((oo : Int) != (oo : Int)) = false := by simp
        subst han
        clear hdf y1 y2 y3 hkz hgd hisd hnm hce hae hoe
        have HC4 : Hid (∀ wx, Below w.heap.size w wx → wx.cell? ⟨gC, lo, none⟩ = some (.int .u32 (cc : Int)) ∧ wx.cell? ⟨gA, lo, none⟩ = some (.int .u32 (aa : Int))) := HCA
        have HY : Hid (d.cat = cc ∧ d.all = aa ∧ d.own = oo) := HYY
        clear HCA HYY
        go_wp2_with fail
        go_quiet (fail)
        go_upto_region 50 with fail
        refine at_world (fun wx => SK N ss w m gf gs cs l wx ∧ RowAt wx gn 40 #[.string (bs s.lab), .int .i32 (d.first : Int), .int .i32 (d.count : Int), .bool true, .int .u32 (d.cat : Int), .int .u32 (d.own : Int), .int .u32 (d.all : Int), .int .u32 (bl : Int)]) ⟨HAR.out.1.below' (below_drewN (Below.refl _ _) _), HAR.out.2.below (below_drewN (Below.refl _ _) _) HAR.out.2.lt⟩ ?_
        rintro wb ⟨HB, hrow⟩
        clear c1 c2 c3 c4 c5 c6 HAR hfull hnc hcc hca
        have c4 : wb.cell? ⟨gn, 4, none⟩ = some (.int .u32 (cc : Int)) := by rw [← HY.out.1]; exact hrow.cell 4
        have c5 : wb.cell? ⟨gn, 5, none⟩ = some (.int .u32 (oo : Int)) := by rw [← HY.out.2.2]; exact hrow.cell 5
        have c6 : wb.cell? ⟨gn, 6, none⟩ = some (.int .u32 (aa : Int)) := by rw [← HY.out.2.1]; exact hrow.cell 6
        obtain ⟨hcc, hca⟩ := HC4.out wb HB.fl.below
        have HBR : Hid (SK N ss w m gf gs cs l wb ∧ RowAt wb gn 40 #[.string (bs s.lab), .int .i32 (d.first : Int), .int .i32 (d.count : Int), .bool true, .int .u32 (d.cat : Int), .int .u32 (d.own : Int), .int .u32 (d.all : Int), .int .u32 (bl : Int)]) := ⟨HB, hrow⟩
        clear HB hrow
        go_quiet ((go_at_call 20; exact Calls.quiet_of_same (K20.out _)))
        go_upto_region 52 with fail
        refine at_world (fun wx => SK N ss w m gf gs cs l wx ∧ RowAt wx gn 40 #[.string (bs s.lab), .int .i32 (d.first : Int), .int .i32 (d.count : Int), .bool true, .int .u32 (d.cat : Int), .int .u32 (d.own : Int), .int .u32 (d.all : Int), .int .u32 (bl : Int)]) ⟨HBR.out.1.below' (below_drewN (Below.refl _ _) _), HBR.out.2.below (below_drewN (Below.refl _ _) _) HBR.out.2.lt⟩ ?_
        rintro wd ⟨HB, hrow⟩
        clear c4 c5 c6 hcc hca HBR K20
        have c1 : wd.cell? ⟨gn, 1, none⟩ = some (.int .i32 (d.first : Int)) := hrow.cell 1
        have c2 : wd.cell? ⟨gn, 2, none⟩ = some (.int .i32 (d.count : Int)) := hrow.cell 2
        have HAR : Hid (SK N ss w m gf gs cs l wd ∧ RowAt wd gn 40 #[.string (bs s.lab), .int .i32 (d.first : Int), .int .i32 (d.count : Int), .bool true, .int .u32 (d.cat : Int), .int .u32 (d.own : Int), .int .u32 (d.all : Int), .int .u32 (bl : Int)]) := ⟨HB, hrow⟩
        clear HB hrow
        go_wp2_with fail
        refine T5 HD.out.2.2.2.2 hL9 (by omega) (by omega) wd HAR.out.1 HAR.out.2 rfl _ _ _ _ _ _ _ _ _ _ _ _ _ _ _ _ _ _ _ _ _ _ _ _ _ _ _ _ _ _ _ _ _ _ _ _ _ _ _ _ _ _ _ _ _ _ _ _ _ _ _ _ _ _ _ _ _ _ _ _ _ _ _ _ _ _ _ _ _ _ _ _ _ _ _ _ _ _ _ _ _ _ _ _ _ _ _ _ _ _ _ _ _ _ _ _ _ _ _ _ _ _ _ _ _ _ _ _ _ _ _ _ _ _ _ _ _ _ _ _ _ _ _ _ _ _ _ _ _ _ _ _ _ _ _ _ _ _ _ _ _ _ _ _ _ _ _ _ _ _ _ _ _ _ _ _ _ _ _ _ _ _ _ _ _ _ _ _ _ _ _ _ _ _ _ _ _ _ _ _ _ _ _ _ _ _ _ _ _ _ _ _ _ _ _ _ _ _ _ _ _ _ _ _ _ _ _ _ _ _ _ _ _ _ _ _ _ _ _ _ _ _ _ _ _ _ _ _ _ _ _ _ _ _ _ _ _ _ _ _ _ _ _ _ _ _ _ _ _ _ _ _ _ _ _ _ _ _ _ _ _ _ _ _ _ _ _ _ _ _ _ _ _ _ _ _ _ _ _ _ _ _ _ _ _ _ _ _ _ _ _ _ _ _ _ _ _ _ _ _ _ _ _ _ _ _ _ _ _ _ _ _ _ _ _ _ _ _ _ _ _ _ _ _ _ _ _ _ _ _ _ _ _ _ _ _ _ _ _ _ _ _ _ _ _ _ _ _ _ _ _ _ _ _ _ _ _ ?_
        intros
        rename_i gs' cs' L2 wz HZ hLz
        have HZ8 : Hid (SK N ss w m gf gs' cs' ((List.range d.count).map (d.first + ·) ++ l) wz ∧ L2 = ((List.range d.count).map (d.first + ·) ++ l).length) := ⟨HZ, hLz⟩
        clear HZ hLz
        go_wp2_with fail
        go_roundg (SW n ss ((List.range d.count).map (d.first + ·) ++ l))
        case measure => exact HST2.out.2
        case rel => exact ⟨_, gs', cs', L2, lo + 1, rfl, by go_num, HZ8.out.2, rfl, by have := HST2.out.2; omega, by rw [← hl0.out]; exact HST2.out.1, HZ8.out.1⟩

end Go.Proofs.Qxb6600888a
