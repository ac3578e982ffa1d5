import Derived.Test.Qxb6600888aChk
namespace Go.Proofs.Qxb6600888a
open Go.RowKit
set_option linter.unusedVariables false
set_option linter.unusedSimpArgs false

/-- What isTrieOf reads. -/
structure Ck (N : List Str) (C A : List Nat) (w : World) (n m : Nat) (ss : List St) (dd : List Dy) (nv : List Nv) (go gH gC gA : Nat) (an : Option Addr) : Prop where
  hN : Names N
  hn : N.length = n
  hn4 : n ≤ 4096
  len : ∀ j, (nm N j).length ≤ 1048576
  hA : ∀ j, A.getD j 0 < 4294967296
  fin : Fin N C A m ss dd nv
  node : ∀ wx, Below w.heap.size w wx → ∀ (k : Nat) v, nv[k]? = some v → ∀ f, f < 8 → wx.cell? ⟨go, k * 8 + f, none⟩ = (ndc v)[f]?
  head : ∀ wx, Below w.heap.size w wx → ∀ (k : Nat) s, ss[k]? = some s → wx.cell? ⟨gH, k, none⟩ = some (.int .u64 (hd s.lab))
  name : ∀ wx, Below w.heap.size w wx → ∀ j, j < n → ∃ b off, an = some ⟨b, off, none⟩ ∧ wx.cell? ⟨b, off + j, none⟩ = some (.string (bs (nm N j)))
  cat : ∀ wx, Below w.heap.size w wx → ∀ j, j < n → wx.cell? ⟨gC, j, none⟩ = some (.int .u32 ((C.getD j 0 : Nat) : Int))
  all : ∀ wx, Below w.heap.size w wx → ∀ j, j < n → wx.cell? ⟨gA, j, none⟩ = some (.int .u32 ((A.getD j 0 : Nat) : Int))
theorem Ck.mb {N : List Str} {C A : List Nat} {w : World} {n m : Nat} {ss : List St} {dd : List Dy} {nv : List Nv} {go gH gC gA : Nat} {an : Option Addr} (h : Ck N C A w n m ss dd nv go gH gC gA an) : m ≤ 8193 := by
  have := h.fin.small; have := h.hn; have := h.hn4; omega

noncomputable def tbody1 : Code := ((Try.f12.body.map loops).getD []).getD 0 .skip

set_option maxHeartbeats 8000000 in
set_option maxRecDepth 1000000 in
theorem T1 {N : List Str} {C A : List Nat} {w : World} {n m : Nat} {ss : List St} {dd : List Dy} {nv : List Nv} {go gH cH gC gA cn : Nat} {an : Option Addr} (ck : Ck N C A w n m ss dd nv go gH gC gA an) (wr : World) (h0 : Below w.heap.size w wr)
    (K : Act → World → Prop) (Rr : Ending → World → Prop) (u5 u6 u7 u8 u9 u10 u13 u14 u15 u16 u17 u18 u19 u20 u21 u22 u23 u24 u25 u26 u27 u28 u29 u30 u31 u32 u33 u34 u35 u36 u37 u38 u39 u40 u41 u42 u43 u44 u45 u46 u47 u48 u49 u50 u51 u52 u53 u54 u55 u56 u57 u58 u59 u60 u61 u62 u63 u64 u65 u66 u67 u68 u69 u70 u71 u72 u73 u74 u75 u76 u77 u78 u79 u80 u81 u82 u83 u84 u85 u86 u87 u88 u89 u90 u91 u92 u93 u94 u95 u96 u97 u98 u99 u100 u101 u102 u103 u104 u105 u106 u107 u108 u109 u110 u111 u112 u113 u114 u115 u116 u117 u118 u119 u120 u121 u122 u123 u124 u125 u126 u127 u128 u129 u130 u131 u132 u133 u134 u135 u136 u137 u138 u139 u140 u141 u142 u143 u144 u145 u146 u147 u148 u149 u150 u151 u152 u153 u154 u155 u156 u157 u158 u159 u160 u161 u162 u163 u164 u165 u166 u167 u168 u169 u170 u171 u172 u173 u174 u175 u176 u177 u178 u179 u180 u181 u182 u183 u184 u185 u186 u187 u188 u189 u190 u191 u192 u193 u194 u195 u196 u197 u198 u199 u200 u201 u202 u203 u204 u205 u206 u207 u208 u209 u210 u211 u212 u213 u214 u215 u216 u217 u218 u219 u220 u221 u222 u223 u224 u225 u226 u227 u228 u229 u230 u231 u232 u233 u234 u235 u236 u237 u238 u239 u240 u241 u242 u243 u244 u245 u246 u247 u248 u249 u250 u251 u252 u253 u254 u255 u256 u257 u258 u259 u260 u261 u262 u263 u264 u265 u266 u267 u268 u269 u270 u271 u272 u273 u274 u275 u276 u277 u278 u279 u280 u281 u282 u283 u284 u285 u286 u287 u288 u289 u290 u291 u292 u293 u294 u295 u296 u297 u298 u299 u300 u301 u302 u303 u304 u305 u306 u307 u308 u309 u310 u311 u312 u313 u314 u315 u316 u317 u318 u319 u320 u321 u322 u323 u324 u325 u326 u327 u328 u329 u330 u331 u332 u333 u334 u335 u336 u337 u338 u339 u340 u341 u342 u343 u344 u345 u346 u347 u348 u349 u350 u351 u352 u353 u354 u355 u356 u357 u358 u359 u360 u361 u362 u363 u364 u365 : Value)
    (hexit : ∀ (x10 x13 x14 x60 x61 x62 x63 x64 x65 x66 x67 x68 x69 x70 x71 x72 x73 x74 x75 x76 x77 x78 x79 x80 x81 x82 x83 x84 x85 x86 x87 x88 x89 x90 x91 x92 x93 x94 x95 x96 x97 x98 x99 x100 x101 x102 x103 x104 x105 x106 x107 x108 x109 x110 x111 x112 x113 x114 x115 x116 : Value) (wz : World), Below w.heap.size w wz → K ⟨List.toArray ((Value.slice (some ⟨go, 0, none⟩) m m) :: (Value.slice (some ⟨gH, 0, none⟩) m cH) :: (Value.slice an n cn) :: (Value.slice (some ⟨gC, 0, none⟩) n n) :: (Value.slice (some ⟨gA, 0, none⟩) n n) :: u5 :: u6 :: u7 :: u8 :: u9 :: x10 :: (Value.int .i64 (m : Int)) :: (Value.int .i64 (m : Int)) :: x13 :: x14 :: u15 :: u16 :: u17 :: u18 :: u19 :: u20 :: u21 :: u22 :: u23 :: u24 :: u25 :: u26 :: u27 :: u28 :: u29 :: u30 :: u31 :: u32 :: u33 :: u34 :: u35 :: u36 :: u37 :: u38 :: u39 :: u40 :: u41 :: u42 :: u43 :: u44 :: u45 :: u46 :: u47 :: u48 :: u49 :: u50 :: u51 :: u52 :: u53 :: u54 :: u55 :: u56 :: u57 :: u58 :: u59 :: x60 :: x61 :: x62 :: x63 :: x64 :: x65 :: x66 :: x67 :: x68 :: x69 :: x70 :: x71 :: x72 :: x73 :: x74 :: x75 :: x76 :: x77 :: x78 :: x79 :: x80 :: x81 :: x82 :: x83 :: x84 :: x85 :: x86 :: x87 :: x88 :: x89 :: x90 :: x91 :: x92 :: x93 :: x94 :: x95 :: x96 :: x97 :: x98 :: x99 :: x100 :: x101 :: x102 :: x103 :: x104 :: x105 :: x106 :: x107 :: x108 :: x109 :: x110 :: x111 :: x112 :: x113 :: x114 :: x115 :: x116 :: u117 :: u118 :: u119 :: u120 :: u121 :: u122 :: u123 :: u124 :: u125 :: u126 :: u127 :: u128 :: u129 :: u130 :: u131 :: u132 :: u133 :: u134 :: u135 :: u136 :: u137 :: u138 :: u139 :: u140 :: u141 :: u142 :: u143 :: u144 :: u145 :: u146 :: u147 :: u148 :: u149 :: u150 :: u151 :: u152 :: u153 :: u154 :: u155 :: u156 :: u157 :: u158 :: u159 :: u160 :: u161 :: u162 :: u163 :: u164 :: u165 :: u166 :: u167 :: u168 :: u169 :: u170 :: u171 :: u172 :: u173 :: u174 :: u175 :: u176 :: u177 :: u178 :: u179 :: u180 :: u181 :: u182 :: u183 :: u184 :: u185 :: u186 :: u187 :: u188 :: u189 :: u190 :: u191 :: u192 :: u193 :: u194 :: u195 :: u196 :: u197 :: u198 :: u199 :: u200 :: u201 :: u202 :: u203 :: u204 :: u205 :: u206 :: u207 :: u208 :: u209 :: u210 :: u211 :: u212 :: u213 :: u214 :: u215 :: u216 :: u217 :: u218 :: u219 :: u220 :: u221 :: u222 :: u223 :: u224 :: u225 :: u226 :: u227 :: u228 :: u229 :: u230 :: u231 :: u232 :: u233 :: u234 :: u235 :: u236 :: u237 :: u238 :: u239 :: u240 :: u241 :: u242 :: u243 :: u244 :: u245 :: u246 :: u247 :: u248 :: u249 :: u250 :: u251 :: u252 :: u253 :: u254 :: u255 :: u256 :: u257 :: u258 :: u259 :: u260 :: u261 :: u262 :: u263 :: u264 :: u265 :: u266 :: u267 :: u268 :: u269 :: u270 :: u271 :: u272 :: u273 :: u274 :: u275 :: u276 :: u277 :: u278 :: u279 :: u280 :: u281 :: u282 :: u283 :: u284 :: u285 :: u286 :: u287 :: u288 :: u289 :: u290 :: u291 :: u292 :: u293 :: u294 :: u295 :: u296 :: u297 :: u298 :: u299 :: u300 :: u301 :: u302 :: u303 :: u304 :: u305 :: u306 :: u307 :: u308 :: u309 :: u310 :: u311 :: u312 :: u313 :: u314 :: u315 :: u316 :: u317 :: u318 :: u319 :: u320 :: u321 :: u322 :: u323 :: u324 :: u325 :: u326 :: u327 :: u328 :: u329 :: u330 :: u331 :: u332 :: u333 :: u334 :: u335 :: u336 :: u337 :: u338 :: u339 :: u340 :: u341 :: u342 :: u343 :: u344 :: u345 :: u346 :: u347 :: u348 :: u349 :: u350 :: u351 :: u352 :: u353 :: u354 :: u355 :: u356 :: u357 :: u358 :: u359 :: u360 :: u361 :: u362 :: u363 :: u364 :: u365 :: []), []⟩ wz) :
    Code.wp Try.prog (Code.loop tbody1) (Exit.inBlock 0 (Exit.then K (bodyPost Try.prog Try.f12 Rr))) ⟨List.toArray ((Value.slice (some ⟨go, 0, none⟩) m m) :: (Value.slice (some ⟨gH, 0, none⟩) m cH) :: (Value.slice an n cn) :: (Value.slice (some ⟨gC, 0, none⟩) n n) :: (Value.slice (some ⟨gA, 0, none⟩) n n) :: u5 :: u6 :: u7 :: u8 :: u9 :: u10 :: (Value.int .i64 (m : Int)) :: (Value.int .i64 (0 : Int)) :: u13 :: u14 :: u15 :: u16 :: u17 :: u18 :: u19 :: u20 :: u21 :: u22 :: u23 :: u24 :: u25 :: u26 :: u27 :: u28 :: u29 :: u30 :: u31 :: u32 :: u33 :: u34 :: u35 :: u36 :: u37 :: u38 :: u39 :: u40 :: u41 :: u42 :: u43 :: u44 :: u45 :: u46 :: u47 :: u48 :: u49 :: u50 :: u51 :: u52 :: u53 :: u54 :: u55 :: u56 :: u57 :: u58 :: u59 :: u60 :: u61 :: u62 :: u63 :: u64 :: u65 :: u66 :: u67 :: u68 :: u69 :: u70 :: u71 :: u72 :: u73 :: u74 :: u75 :: u76 :: u77 :: u78 :: u79 :: u80 :: u81 :: u82 :: u83 :: u84 :: u85 :: u86 :: u87 :: u88 :: u89 :: u90 :: u91 :: u92 :: u93 :: u94 :: u95 :: u96 :: u97 :: u98 :: u99 :: u100 :: u101 :: u102 :: u103 :: u104 :: u105 :: u106 :: u107 :: u108 :: u109 :: u110 :: u111 :: u112 :: u113 :: u114 :: u115 :: u116 :: u117 :: u118 :: u119 :: u120 :: u121 :: u122 :: u123 :: u124 :: u125 :: u126 :: u127 :: u128 :: u129 :: u130 :: u131 :: u132 :: u133 :: u134 :: u135 :: u136 :: u137 :: u138 :: u139 :: u140 :: u141 :: u142 :: u143 :: u144 :: u145 :: u146 :: u147 :: u148 :: u149 :: u150 :: u151 :: u152 :: u153 :: u154 :: u155 :: u156 :: u157 :: u158 :: u159 :: u160 :: u161 :: u162 :: u163 :: u164 :: u165 :: u166 :: u167 :: u168 :: u169 :: u170 :: u171 :: u172 :: u173 :: u174 :: u175 :: u176 :: u177 :: u178 :: u179 :: u180 :: u181 :: u182 :: u183 :: u184 :: u185 :: u186 :: u187 :: u188 :: u189 :: u190 :: u191 :: u192 :: u193 :: u194 :: u195 :: u196 :: u197 :: u198 :: u199 :: u200 :: u201 :: u202 :: u203 :: u204 :: u205 :: u206 :: u207 :: u208 :: u209 :: u210 :: u211 :: u212 :: u213 :: u214 :: u215 :: u216 :: u217 :: u218 :: u219 :: u220 :: u221 :: u222 :: u223 :: u224 :: u225 :: u226 :: u227 :: u228 :: u229 :: u230 :: u231 :: u232 :: u233 :: u234 :: u235 :: u236 :: u237 :: u238 :: u239 :: u240 :: u241 :: u242 :: u243 :: u244 :: u245 :: u246 :: u247 :: u248 :: u249 :: u250 :: u251 :: u252 :: u253 :: u254 :: u255 :: u256 :: u257 :: u258 :: u259 :: u260 :: u261 :: u262 :: u263 :: u264 :: u265 :: u266 :: u267 :: u268 :: u269 :: u270 :: u271 :: u272 :: u273 :: u274 :: u275 :: u276 :: u277 :: u278 :: u279 :: u280 :: u281 :: u282 :: u283 :: u284 :: u285 :: u286 :: u287 :: u288 :: u289 :: u290 :: u291 :: u292 :: u293 :: u294 :: u295 :: u296 :: u297 :: u298 :: u299 :: u300 :: u301 :: u302 :: u303 :: u304 :: u305 :: u306 :: u307 :: u308 :: u309 :: u310 :: u311 :: u312 :: u313 :: u314 :: u315 :: u316 :: u317 :: u318 :: u319 :: u320 :: u321 :: u322 :: u323 :: u324 :: u325 :: u326 :: u327 :: u328 :: u329 :: u330 :: u331 :: u332 :: u333 :: u334 :: u335 :: u336 :: u337 :: u338 :: u339 :: u340 :: u341 :: u342 :: u343 :: u344 :: u345 :: u346 :: u347 :: u348 :: u349 :: u350 :: u351 :: u352 :: u353 :: u354 :: u355 :: u356 :: u357 :: u358 :: u359 :: u360 :: u361 :: u362 :: u363 :: u364 :: u365 :: []), []⟩ wr := by
  have CK : Hid (Ck N C A w n m ss dd nv go gH gC gA an) := ck
  have H0 : Hid (Below w.heap.size w wr) := h0
  have HEX : Hid (∀ (x10 x13 x14 x60 x61 x62 x63 x64 x65 x66 x67 x68 x69 x70 x71 x72 x73 x74 x75 x76 x77 x78 x79 x80 x81 x82 x83 x84 x85 x86 x87 x88 x89 x90 x91 x92 x93 x94 x95 x96 x97 x98 x99 x100 x101 x102 x103 x104 x105 x106 x107 x108 x109 x110 x111 x112 x113 x114 x115 x116 : Value) (wz : World), Below w.heap.size w wz → K ⟨List.toArray ((Value.slice (some ⟨go, 0, none⟩) m m) :: (Value.slice (some ⟨gH, 0, none⟩) m cH) :: (Value.slice an n cn) :: (Value.slice (some ⟨gC, 0, none⟩) n n) :: (Value.slice (some ⟨gA, 0, none⟩) n n) :: u5 :: u6 :: u7 :: u8 :: u9 :: x10 :: (Value.int .i64 (m : Int)) :: (Value.int .i64 (m : Int)) :: x13 :: x14 :: u15 :: u16 :: u17 :: u18 :: u19 :: u20 :: u21 :: u22 :: u23 :: u24 :: u25 :: u26 :: u27 :: u28 :: u29 :: u30 :: u31 :: u32 :: u33 :: u34 :: u35 :: u36 :: u37 :: u38 :: u39 :: u40 :: u41 :: u42 :: u43 :: u44 :: u45 :: u46 :: u47 :: u48 :: u49 :: u50 :: u51 :: u52 :: u53 :: u54 :: u55 :: u56 :: u57 :: u58 :: u59 :: x60 :: x61 :: x62 :: x63 :: x64 :: x65 :: x66 :: x67 :: x68 :: x69 :: x70 :: x71 :: x72 :: x73 :: x74 :: x75 :: x76 :: x77 :: x78 :: x79 :: x80 :: x81 :: x82 :: x83 :: x84 :: x85 :: x86 :: x87 :: x88 :: x89 :: x90 :: x91 :: x92 :: x93 :: x94 :: x95 :: x96 :: x97 :: x98 :: x99 :: x100 :: x101 :: x102 :: x103 :: x104 :: x105 :: x106 :: x107 :: x108 :: x109 :: x110 :: x111 :: x112 :: x113 :: x114 :: x115 :: x116 :: u117 :: u118 :: u119 :: u120 :: u121 :: u122 :: u123 :: u124 :: u125 :: u126 :: u127 :: u128 :: u129 :: u130 :: u131 :: u132 :: u133 :: u134 :: u135 :: u136 :: u137 :: u138 :: u139 :: u140 :: u141 :: u142 :: u143 :: u144 :: u145 :: u146 :: u147 :: u148 :: u149 :: u150 :: u151 :: u152 :: u153 :: u154 :: u155 :: u156 :: u157 :: u158 :: u159 :: u160 :: u161 :: u162 :: u163 :: u164 :: u165 :: u166 :: u167 :: u168 :: u169 :: u170 :: u171 :: u172 :: u173 :: u174 :: u175 :: u176 :: u177 :: u178 :: u179 :: u180 :: u181 :: u182 :: u183 :: u184 :: u185 :: u186 :: u187 :: u188 :: u189 :: u190 :: u191 :: u192 :: u193 :: u194 :: u195 :: u196 :: u197 :: u198 :: u199 :: u200 :: u201 :: u202 :: u203 :: u204 :: u205 :: u206 :: u207 :: u208 :: u209 :: u210 :: u211 :: u212 :: u213 :: u214 :: u215 :: u216 :: u217 :: u218 :: u219 :: u220 :: u221 :: u222 :: u223 :: u224 :: u225 :: u226 :: u227 :: u228 :: u229 :: u230 :: u231 :: u232 :: u233 :: u234 :: u235 :: u236 :: u237 :: u238 :: u239 :: u240 :: u241 :: u242 :: u243 :: u244 :: u245 :: u246 :: u247 :: u248 :: u249 :: u250 :: u251 :: u252 :: u253 :: u254 :: u255 :: u256 :: u257 :: u258 :: u259 :: u260 :: u261 :: u262 :: u263 :: u264 :: u265 :: u266 :: u267 :: u268 :: u269 :: u270 :: u271 :: u272 :: u273 :: u274 :: u275 :: u276 :: u277 :: u278 :: u279 :: u280 :: u281 :: u282 :: u283 :: u284 :: u285 :: u286 :: u287 :: u288 :: u289 :: u290 :: u291 :: u292 :: u293 :: u294 :: u295 :: u296 :: u297 :: u298 :: u299 :: u300 :: u301 :: u302 :: u303 :: u304 :: u305 :: u306 :: u307 :: u308 :: u309 :: u310 :: u311 :: u312 :: u313 :: u314 :: u315 :: u316 :: u317 :: u318 :: u319 :: u320 :: u321 :: u322 :: u323 :: u324 :: u325 :: u326 :: u327 :: u328 :: u329 :: u330 :: u331 :: u332 :: u333 :: u334 :: u335 :: u336 :: u337 :: u338 :: u339 :: u340 :: u341 :: u342 :: u343 :: u344 :: u345 :: u346 :: u347 :: u348 :: u349 :: u350 :: u351 :: u352 :: u353 :: u354 :: u355 :: u356 :: u357 :: u358 :: u359 :: u360 :: u361 :: u362 :: u363 :: u364 :: u365 :: []), []⟩ wz) := hexit
  have hmb := ck.mb
  clear ck h0 hexit
  conv => arg 2; arg 1; whnf
  go_loopg [12] m (fun g v wx => ∃ i : Nat, v = .int .i64 (i : Int) ∧ i + g = m ∧ Below w.heap.size w wx)
  case atStart => exact ⟨0, rfl, by omega, H0.out⟩
  case round =>
    obtain ⟨i, rfl, hig, hb⟩ := hrel
    have HB : Hid (Below w.heap.size w wr) := hb
    cases gk with
    | zero =>
      obtain rfl : i = m := by omega
      have hnl : ¬ (i : Int) < (i : Int) := by omega
      clear hb
      go_wp2_with fail
      exact HEX.out _ _ _ _ _ _ _ _ _ _ _ _ _ _ _ _ _ _ _ _ _ _ _ _ _ _ _ _ _ _ _ _ _ _ _ _ _ _ _ _ _ _ _ _ _ _ _ _ _ _ _ _ _ _ _ _ _ _ _ _ wr HB.out
    | succ g =>
      have hil : i < m := by omega
      obtain ⟨s, d, hs, hd, hdn, hv⟩ := CK.out.fin.get hil
      have hc1 : wr.cell? ⟨go, i * 8 + 1, none⟩ = some (.int .i32 (d.first : Int)) := CK.out.node wr hb i _ hv 1 (by omega)
      have hc2 : wr.cell? ⟨go, i * 8 + 2, none⟩ = some (.int .i32 (d.count : Int)) := CK.out.node wr hb i _ hv 2 (by omega)
      have hgt := hdn.gt
      have hft : d.first + d.count ≤ m := by have := hdn.fits; rw [CK.out.fin.sl] at this; exact this
      have hii : (i : Int) < (m : Int) := by omega
      have hi0 : (0 : Int) ≤ (i : Int) := by omega
      by_cases hz : i = 0
      · have hdz : decide (0 < i) = false := decide_eq_false (by omega)
        generalize d.first = f at *
        generalize d.count = k at *
        have e1 : ¬ (k : Int) < 0 := by omega
        have e2 : ¬ (f : Int) ≤ (i : Int) := by omega
        have e3 : ¬ (m : Int) < (f : Int) := by omega
        have w1 : IntKind.i64.wrap ((m : Int) - (f : Int)) = (m : Int) - (f : Int) := wrap_small _ (by omega) (by omega)
        have e4 : ¬ (m : Int) - (f : Int) < (k : Int) := by omega
        have w2 : IntKind.i64.wrap (f : Int) = (f : Int) := wrap_small _ (by omega) (by omega)
        have w3 : IntKind.i64.wrap (k : Int) = (k : Int) := wrap_small _ (by omega) (by omega)
        have w4 : IntKind.i64.wrap ((i : Int) + 1) = ((i + 1 : Nat) : Int) := by rw [wrap_small _ (by omega) (by omega)]; push_cast; rfl
        have HZ : Hid (i = 0) := hz
        clear hz hs hd hdn hv hb hgt hft
        go_wp2_with fail
        go_quiet (fail)
        go_wp2_with fail
        go_roundg g
        case measure => omega
        case rel => exact ⟨i + 1, by go_num, by omega, below_drewN HB.out _⟩
      · obtain ⟨p, hp⟩ : ∃ p, i = p + 1 := ⟨i - 1, by omega⟩
        obtain ⟨s', d', hs', hd', hdn', hv'⟩ := CK.out.fin.get (show p < m by omega)
        have hch : d.first = d'.first + d'.count := CK.out.fin.chain hd' (by rw [← hp]; exact hd)
        have hc3 : wr.cell? ⟨go, p * 8 + 1, none⟩ = some (.int .i32 (d'.first : Int)) := CK.out.node wr hb p _ hv' 1 (by omega)
        have hc4 : wr.cell? ⟨go, p * 8 + 2, none⟩ = some (.int .i32 (d'.count : Int)) := CK.out.node wr hb p _ hv' 2 (by omega)
        have hdz : decide (0 < i) = true := decide_eq_true (by omega)
        have hpz : (0 : Int) < (i : Int) := by omega
        generalize d.first = f at *
        generalize d.count = k at *
        generalize d'.first = f' at *
        generalize d'.count = k' at *
        have e1 : ¬ (k : Int) < 0 := by omega
        have e2 : ¬ (f : Int) ≤ (i : Int) := by omega
        have e3 : ¬ (m : Int) < (f : Int) := by omega
        have w1 : IntKind.i64.wrap ((m : Int) - (f : Int)) = (m : Int) - (f : Int) := wrap_small _ (by omega) (by omega)
        have e4 : ¬ (m : Int) - (f : Int) < (k : Int) := by omega
        have w2 : IntKind.i64.wrap (f : Int) = (f : Int) := wrap_small _ (by omega) (by omega)
        have w3 : IntKind.i64.wrap (k : Int) = (k : Int) := wrap_small _ (by omega) (by omega)
        have w5 : IntKind.i64.wrap (f' : Int) = (f' : Int) := wrap_small _ (by omega) (by omega)
        have w6 : IntKind.i64.wrap (k' : Int) = (k' : Int) := wrap_small _ (by omega) (by omega)
        have w7 : IntKind.i64.wrap ((f' : Int) + (k' : Int)) = (f : Int) := by rw [wrap_small _ (by omega) (by omega)]; omega
        have w8 : IntKind.i64.wrap ((i : Int) - 1) = (p : Int) := by rw [wrap_small _ (by omega) (by omega)]; omega
        have hpi : (p : Int) < (m : Int) := by omega
        have hp0 : (0 : Int) ≤ (p : Int) := by omega
        have e5 : ((f : Int) != (f : Int)) = false := by simp
        have w4 : IntKind.i64.wrap ((i : Int) + 1) = ((i + 1 : Nat) : Int) := by rw [wrap_small _ (by omega) (by omega)]; push_cast; rfl
        have HP : Hid (i = p + 1) := hp
        clear hp hz hs hd hdn hv hb hgt hft hch hs' hd' hdn' hv'
        go_wp2_with fail
        go_quiet (fail)
        go_wp2_with fail
        go_roundg g
        case measure => omega
        case rel => exact ⟨i + 1, by go_num, by omega, below_drewN HB.out _⟩

end Go.Proofs.Qxb6600888a
