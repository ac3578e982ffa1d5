import Derived.Test.Qxb6600888aStk
namespace Go.Proofs.Qxb6600888a
open Go.RowKit
set_option linter.unusedVariables false
set_option linter.unusedSimpArgs false

noncomputable def tbody6 : Code := ((Try.f12.body.map loops).getD []).getD 5 .skip
def acc (A : List Nat) (l0 hi j : Nat) : Nat := orA A l0 (min j hi)
theorem acc_in (A : List Nat) {l0 hi j : Nat} (h1 : l0 ≤ j) (h2 : j < hi) : acc A l0 hi (j + 1) = acc A l0 hi j ||| A.getD j 0 := by
  unfold acc; rw [show min (j + 1) hi = j + 1 by omega, show min j hi = j by omega]; exact orA_succ A h1
theorem acc_out (A : List Nat) {l0 hi j : Nat} (h : ¬ (l0 ≤ j ∧ j < hi)) : acc A l0 hi (j + 1) = acc A l0 hi j := by
  unfold acc
  by_cases hj : j < hi
  · rw [show min (j + 1) hi = j + 1 by omega, show min j hi = j by omega, orA_nil A (by omega), orA_nil A (by omega)]
  · rw [show min (j + 1) hi = hi by omega, show min j hi = hi by omega]

/-- What isTrieOf asks of strictlyBelow. -/
theorem below_is {N : List Str} {C A : List Nat} {w : World} {n m : Nat} {ss : List St} {dd : List Dy} {nv : List Nv} {go gH gC gA : Nat} {an : Option Addr} (ck : Ck N C A w n m ss dd nv go gH gC gA an) {i : Nat} {s : St} (hs : ss[i]? = some s) {j : Nat} (hj : j < n) :
    ((lo' N s ≤ j ∧ j < s.hi) → ∀ w, Calls Try.prog 21 #[.string (bs (fu N ss i)), .string (bs (nm N j))] w fun e w' => e = .returned (.bool true) ∧ w' = w) ∧
    (¬ (lo' N s ≤ j ∧ j < s.hi) → ∀ w, Calls Try.prog 21 #[.string (bs (fu N ss i)), .string (bs (nm N j))] w fun e w' => e = .returned (.bool false) ∧ w' = w) := by
  have hjn : j < N.length := by rw [ck.hn]; exact hj
  by_cases hi : i = 0
  · subst hi
    have h1 := ck.fin.inv.root
    rw [hs] at h1; cases h1
    have hfu : fu N ss 0 = [] := by unfold fu; rw [hs]; rfl
    rw [hfu]
    constructor
    · intro _ w
      exact below_root (bs (nm N j)) w (dotted_ne (ck.hN.dot j hjn))
    · intro h
      exact absurd ⟨by rw [lo'_root ck.hN]; omega, hjn⟩ h
  · have hfu : fu N ss i = full N s := by unfold fu; rw [hs]; unfold fullOf; simp only []; rw [if_neg hi]
    rw [hfu]
    have hg := ck.fin.inv.good i s (by omega) hs
    have hne : full N s ≠ [] := by
      intro e
      have := full_length hg
      rw [e] at this
      have := hg.en0
      simp at *; omega
    have hb := ck.fin.below_iff ck.hN hs (by omega) hjn
    constructor
    · intro h w
      exact below_yes (bs (full N s)) (bs (nm N j)) w hne (ck.len j) (hb.2 h)
    · intro h w
      exact below_no (bs (full N s)) (bs (nm N j)) w hne (ck.len j) (fun h2 => h (hb.1 h2))

set_option maxHeartbeats 8000000 in
set_option maxRecDepth 1000000 in
theorem T6 {N : List Str} {C A : List Nat} {w : World} {n m : Nat} {ss : List St} {dd : List Dy} {nv : List Nv} {go gH cH gC gA cn gf : Nat} {an : Option Addr} (ck : Ck N C A w n m ss dd nv go gH gC gA an) (wr : World) (h0 : Fl N ss w m gf m wr)
    (K : Act → World → Prop) (Rr : Ending → World → Prop) (u5 u6 u7 u8 u9 u10 u12 u13 u14 u16 u17 u18 u19 u20 u21 u22 u23 u24 u25 u26 u28 u29 u30 u31 u32 u33 u34 u35 u36 u37 u38 u39 u40 u41 u42 u43 u44 u45 u46 u47 u48 u49 u50 u51 u52 u53 u54 u55 u56 u57 u58 u59 u60 u61 u62 u63 u64 u65 u66 u67 u68 u69 u70 u71 u72 u73 u74 u75 u76 u77 u78 u79 u80 u81 u82 u83 u84 u85 u86 u87 u88 u89 u90 u91 u92 u93 u94 u95 u96 u97 u98 u99 u100 u101 u102 u103 u104 u105 u106 u107 u108 u109 u110 u111 u112 u113 u114 u115 u116 u117 u118 u119 u120 u121 u122 u123 u124 u125 u126 u127 u128 u129 u130 u131 u132 u133 u134 u135 u136 u137 u138 u139 u140 u141 u142 u143 u144 u145 u146 u147 u148 u149 u150 u151 u152 u153 u154 u155 u156 u157 u158 u159 u160 u161 u162 u163 u164 u165 u166 u167 u168 u169 u170 u171 u172 u173 u174 u175 u176 u177 u178 u179 u180 u181 u182 u183 u184 u185 u186 u187 u188 u189 u190 u191 u192 u193 u194 u195 u196 u197 u198 u199 u200 u201 u202 u203 u204 u205 u206 u207 u208 u209 u210 u211 u212 u213 u214 u215 u216 u217 u218 u219 u220 u221 u222 u223 u224 u225 u226 u227 u228 u229 u230 u231 u232 u233 u234 u235 u236 u237 u238 u239 u240 u241 u242 u243 u244 u245 u246 u247 u248 u249 u250 u251 u252 u253 u254 u255 u256 u257 u258 u259 u260 u261 u262 u263 u264 u265 u266 u267 u268 u269 u270 u271 u272 u273 u274 u275 u276 u277 u278 u279 u280 u281 u282 u283 u284 u285 u286 u287 u288 u289 u290 u291 u292 u293 u294 u295 u296 u297 u298 u299 u300 u301 u302 u303 u304 u305 u306 u307 u308 u309 u310 u311 u312 u313 u314 u315 u316 u317 u318 u319 u320 u321 u322 u323 u324 u325 u326 u327 u328 u329 u330 u331 u332 u333 u334 u335 u336 u337 u338 u339 u340 u341 u342 u343 u344 u345 u346 u347 u348 u349 u350 u351 u352 u353 u354 u355 u356 u357 u358 u359 u360 u361 u362 u363 u364 u365 : Value)
    (hexit : ∀ (x10 x27 x28 x29 x333 x334 x335 x336 x337 x338 x339 x340 x341 x342 x343 x344 x345 x346 x347 x348 x349 x350 x351 x352 x353 x354 x355 x356 x357 x358 x359 x360 x361 x362 x363 x364 x365 : Value) (wz : World), Below w.heap.size w wz → K ⟨List.toArray ((Value.slice (some ⟨go, 0, none⟩) m m) :: (Value.slice (some ⟨gH, 0, none⟩) m cH) :: (Value.slice an n cn) :: (Value.slice (some ⟨gC, 0, none⟩) n n) :: (Value.slice (some ⟨gA, 0, none⟩) n n) :: u5 :: u6 :: u7 :: u8 :: u9 :: x10 :: (Value.int .i64 (m : Int)) :: u12 :: u13 :: u14 :: (Value.slice (some ⟨gf, 0, none⟩) m m) :: u16 :: u17 :: u18 :: u19 :: u20 :: u21 :: u22 :: u23 :: u24 :: u25 :: u26 :: x27 :: x28 :: x29 :: u30 :: u31 :: u32 :: u33 :: u34 :: u35 :: u36 :: u37 :: u38 :: u39 :: u40 :: u41 :: u42 :: u43 :: u44 :: u45 :: u46 :: u47 :: u48 :: u49 :: u50 :: u51 :: u52 :: u53 :: u54 :: u55 :: u56 :: u57 :: u58 :: u59 :: u60 :: u61 :: u62 :: u63 :: u64 :: u65 :: u66 :: u67 :: u68 :: u69 :: u70 :: u71 :: u72 :: u73 :: u74 :: u75 :: u76 :: u77 :: u78 :: u79 :: u80 :: u81 :: u82 :: u83 :: u84 :: u85 :: u86 :: u87 :: u88 :: u89 :: u90 :: u91 :: u92 :: u93 :: u94 :: u95 :: u96 :: u97 :: u98 :: u99 :: u100 :: u101 :: u102 :: u103 :: u104 :: u105 :: u106 :: u107 :: u108 :: u109 :: u110 :: u111 :: u112 :: u113 :: u114 :: u115 :: u116 :: u117 :: u118 :: u119 :: u120 :: u121 :: u122 :: u123 :: u124 :: u125 :: u126 :: u127 :: u128 :: u129 :: u130 :: u131 :: u132 :: u133 :: u134 :: u135 :: u136 :: u137 :: u138 :: u139 :: u140 :: u141 :: u142 :: u143 :: u144 :: u145 :: u146 :: u147 :: u148 :: u149 :: u150 :: u151 :: u152 :: u153 :: u154 :: u155 :: u156 :: u157 :: u158 :: u159 :: u160 :: u161 :: u162 :: u163 :: u164 :: u165 :: u166 :: u167 :: u168 :: u169 :: u170 :: u171 :: u172 :: u173 :: u174 :: u175 :: u176 :: u177 :: u178 :: u179 :: u180 :: u181 :: u182 :: u183 :: u184 :: u185 :: u186 :: u187 :: u188 :: u189 :: u190 :: u191 :: u192 :: u193 :: u194 :: u195 :: u196 :: u197 :: u198 :: u199 :: u200 :: u201 :: u202 :: u203 :: u204 :: u205 :: u206 :: u207 :: u208 :: u209 :: u210 :: u211 :: u212 :: u213 :: u214 :: u215 :: u216 :: u217 :: u218 :: u219 :: u220 :: u221 :: u222 :: u223 :: u224 :: u225 :: u226 :: u227 :: u228 :: u229 :: u230 :: u231 :: u232 :: u233 :: u234 :: u235 :: u236 :: u237 :: u238 :: u239 :: u240 :: u241 :: u242 :: u243 :: u244 :: u245 :: u246 :: u247 :: u248 :: u249 :: u250 :: u251 :: u252 :: u253 :: u254 :: u255 :: u256 :: u257 :: u258 :: u259 :: u260 :: u261 :: u262 :: u263 :: u264 :: u265 :: u266 :: u267 :: u268 :: u269 :: u270 :: u271 :: u272 :: u273 :: u274 :: u275 :: u276 :: u277 :: u278 :: u279 :: u280 :: u281 :: u282 :: u283 :: u284 :: u285 :: u286 :: u287 :: u288 :: u289 :: u290 :: u291 :: u292 :: u293 :: u294 :: u295 :: u296 :: u297 :: u298 :: u299 :: u300 :: u301 :: u302 :: u303 :: u304 :: u305 :: u306 :: u307 :: u308 :: u309 :: u310 :: u311 :: u312 :: u313 :: u314 :: u315 :: u316 :: u317 :: u318 :: u319 :: u320 :: u321 :: u322 :: u323 :: u324 :: u325 :: u326 :: u327 :: u328 :: u329 :: u330 :: u331 :: u332 :: x333 :: x334 :: x335 :: x336 :: x337 :: x338 :: x339 :: x340 :: x341 :: x342 :: x343 :: x344 :: x345 :: x346 :: x347 :: x348 :: x349 :: x350 :: x351 :: x352 :: x353 :: x354 :: x355 :: x356 :: x357 :: x358 :: x359 :: x360 :: x361 :: x362 :: x363 :: x364 :: x365 :: []), []⟩ wz) :
    Code.wp Try.prog (Code.loop tbody6) (Exit.inBlock 10 (Exit.then K (bodyPost Try.prog Try.f12 Rr))) ⟨List.toArray ((Value.slice (some ⟨go, 0, none⟩) m m) :: (Value.slice (some ⟨gH, 0, none⟩) m cH) :: (Value.slice an n cn) :: (Value.slice (some ⟨gC, 0, none⟩) n n) :: (Value.slice (some ⟨gA, 0, none⟩) n n) :: u5 :: u6 :: u7 :: u8 :: u9 :: u10 :: (Value.int .i64 (m : Int)) :: u12 :: u13 :: u14 :: (Value.slice (some ⟨gf, 0, none⟩) m m) :: u16 :: u17 :: u18 :: u19 :: u20 :: u21 :: u22 :: u23 :: u24 :: u25 :: u26 :: (Value.int .i64 (0 : Int)) :: u28 :: u29 :: u30 :: u31 :: u32 :: u33 :: u34 :: u35 :: u36 :: u37 :: u38 :: u39 :: u40 :: u41 :: u42 :: u43 :: u44 :: u45 :: u46 :: u47 :: u48 :: u49 :: u50 :: u51 :: u52 :: u53 :: u54 :: u55 :: u56 :: u57 :: u58 :: u59 :: u60 :: u61 :: u62 :: u63 :: u64 :: u65 :: u66 :: u67 :: u68 :: u69 :: u70 :: u71 :: u72 :: u73 :: u74 :: u75 :: u76 :: u77 :: u78 :: u79 :: u80 :: u81 :: u82 :: u83 :: u84 :: u85 :: u86 :: u87 :: u88 :: u89 :: u90 :: u91 :: u92 :: u93 :: u94 :: u95 :: u96 :: u97 :: u98 :: u99 :: u100 :: u101 :: u102 :: u103 :: u104 :: u105 :: u106 :: u107 :: u108 :: u109 :: u110 :: u111 :: u112 :: u113 :: u114 :: u115 :: u116 :: u117 :: u118 :: u119 :: u120 :: u121 :: u122 :: u123 :: u124 :: u125 :: u126 :: u127 :: u128 :: u129 :: u130 :: u131 :: u132 :: u133 :: u134 :: u135 :: u136 :: u137 :: u138 :: u139 :: u140 :: u141 :: u142 :: u143 :: u144 :: u145 :: u146 :: u147 :: u148 :: u149 :: u150 :: u151 :: u152 :: u153 :: u154 :: u155 :: u156 :: u157 :: u158 :: u159 :: u160 :: u161 :: u162 :: u163 :: u164 :: u165 :: u166 :: u167 :: u168 :: u169 :: u170 :: u171 :: u172 :: u173 :: u174 :: u175 :: u176 :: u177 :: u178 :: u179 :: u180 :: u181 :: u182 :: u183 :: u184 :: u185 :: u186 :: u187 :: u188 :: u189 :: u190 :: u191 :: u192 :: u193 :: u194 :: u195 :: u196 :: u197 :: u198 :: u199 :: u200 :: u201 :: u202 :: u203 :: u204 :: u205 :: u206 :: u207 :: u208 :: u209 :: u210 :: u211 :: u212 :: u213 :: u214 :: u215 :: u216 :: u217 :: u218 :: u219 :: u220 :: u221 :: u222 :: u223 :: u224 :: u225 :: u226 :: u227 :: u228 :: u229 :: u230 :: u231 :: u232 :: u233 :: u234 :: u235 :: u236 :: u237 :: u238 :: u239 :: u240 :: u241 :: u242 :: u243 :: u244 :: u245 :: u246 :: u247 :: u248 :: u249 :: u250 :: u251 :: u252 :: u253 :: u254 :: u255 :: u256 :: u257 :: u258 :: u259 :: u260 :: u261 :: u262 :: u263 :: u264 :: u265 :: u266 :: u267 :: u268 :: u269 :: u270 :: u271 :: u272 :: u273 :: u274 :: u275 :: u276 :: u277 :: u278 :: u279 :: u280 :: u281 :: u282 :: u283 :: u284 :: u285 :: u286 :: u287 :: u288 :: u289 :: u290 :: u291 :: u292 :: u293 :: u294 :: u295 :: u296 :: u297 :: u298 :: u299 :: u300 :: u301 :: u302 :: u303 :: u304 :: u305 :: u306 :: u307 :: u308 :: u309 :: u310 :: u311 :: u312 :: u313 :: u314 :: u315 :: u316 :: u317 :: u318 :: u319 :: u320 :: u321 :: u322 :: u323 :: u324 :: u325 :: u326 :: u327 :: u328 :: u329 :: u330 :: u331 :: u332 :: u333 :: u334 :: u335 :: u336 :: u337 :: u338 :: u339 :: u340 :: u341 :: u342 :: u343 :: u344 :: u345 :: u346 :: u347 :: u348 :: u349 :: u350 :: u351 :: u352 :: u353 :: u354 :: u355 :: u356 :: u357 :: u358 :: u359 :: u360 :: u361 :: u362 :: u363 :: u364 :: u365 :: []), []⟩ wr := by
  have CK : Hid (Ck N C A w n m ss dd nv go gH gC gA an) := ck
  have H0 : Hid (Fl N ss w m gf m wr) := h0
  have HEX : Hid (∀ (x10 x27 x28 x29 x333 x334 x335 x336 x337 x338 x339 x340 x341 x342 x343 x344 x345 x346 x347 x348 x349 x350 x351 x352 x353 x354 x355 x356 x357 x358 x359 x360 x361 x362 x363 x364 x365 : Value) (wz : World), Below w.heap.size w wz → K ⟨List.toArray ((Value.slice (some ⟨go, 0, none⟩) m m) :: (Value.slice (some ⟨gH, 0, none⟩) m cH) :: (Value.slice an n cn) :: (Value.slice (some ⟨gC, 0, none⟩) n n) :: (Value.slice (some ⟨gA, 0, none⟩) n n) :: u5 :: u6 :: u7 :: u8 :: u9 :: x10 :: (Value.int .i64 (m : Int)) :: u12 :: u13 :: u14 :: (Value.slice (some ⟨gf, 0, none⟩) m m) :: u16 :: u17 :: u18 :: u19 :: u20 :: u21 :: u22 :: u23 :: u24 :: u25 :: u26 :: x27 :: x28 :: x29 :: u30 :: u31 :: u32 :: u33 :: u34 :: u35 :: u36 :: u37 :: u38 :: u39 :: u40 :: u41 :: u42 :: u43 :: u44 :: u45 :: u46 :: u47 :: u48 :: u49 :: u50 :: u51 :: u52 :: u53 :: u54 :: u55 :: u56 :: u57 :: u58 :: u59 :: u60 :: u61 :: u62 :: u63 :: u64 :: u65 :: u66 :: u67 :: u68 :: u69 :: u70 :: u71 :: u72 :: u73 :: u74 :: u75 :: u76 :: u77 :: u78 :: u79 :: u80 :: u81 :: u82 :: u83 :: u84 :: u85 :: u86 :: u87 :: u88 :: u89 :: u90 :: u91 :: u92 :: u93 :: u94 :: u95 :: u96 :: u97 :: u98 :: u99 :: u100 :: u101 :: u102 :: u103 :: u104 :: u105 :: u106 :: u107 :: u108 :: u109 :: u110 :: u111 :: u112 :: u113 :: u114 :: u115 :: u116 :: u117 :: u118 :: u119 :: u120 :: u121 :: u122 :: u123 :: u124 :: u125 :: u126 :: u127 :: u128 :: u129 :: u130 :: u131 :: u132 :: u133 :: u134 :: u135 :: u136 :: u137 :: u138 :: u139 :: u140 :: u141 :: u142 :: u143 :: u144 :: u145 :: u146 :: u147 :: u148 :: u149 :: u150 :: u151 :: u152 :: u153 :: u154 :: u155 :: u156 :: u157 :: u158 :: u159 :: u160 :: u161 :: u162 :: u163 :: u164 :: u165 :: u166 :: u167 :: u168 :: u169 :: u170 :: u171 :: u172 :: u173 :: u174 :: u175 :: u176 :: u177 :: u178 :: u179 :: u180 :: u181 :: u182 :: u183 :: u184 :: u185 :: u186 :: u187 :: u188 :: u189 :: u190 :: u191 :: u192 :: u193 :: u194 :: u195 :: u196 :: u197 :: u198 :: u199 :: u200 :: u201 :: u202 :: u203 :: u204 :: u205 :: u206 :: u207 :: u208 :: u209 :: u210 :: u211 :: u212 :: u213 :: u214 :: u215 :: u216 :: u217 :: u218 :: u219 :: u220 :: u221 :: u222 :: u223 :: u224 :: u225 :: u226 :: u227 :: u228 :: u229 :: u230 :: u231 :: u232 :: u233 :: u234 :: u235 :: u236 :: u237 :: u238 :: u239 :: u240 :: u241 :: u242 :: u243 :: u244 :: u245 :: u246 :: u247 :: u248 :: u249 :: u250 :: u251 :: u252 :: u253 :: u254 :: u255 :: u256 :: u257 :: u258 :: u259 :: u260 :: u261 :: u262 :: u263 :: u264 :: u265 :: u266 :: u267 :: u268 :: u269 :: u270 :: u271 :: u272 :: u273 :: u274 :: u275 :: u276 :: u277 :: u278 :: u279 :: u280 :: u281 :: u282 :: u283 :: u284 :: u285 :: u286 :: u287 :: u288 :: u289 :: u290 :: u291 :: u292 :: u293 :: u294 :: u295 :: u296 :: u297 :: u298 :: u299 :: u300 :: u301 :: u302 :: u303 :: u304 :: u305 :: u306 :: u307 :: u308 :: u309 :: u310 :: u311 :: u312 :: u313 :: u314 :: u315 :: u316 :: u317 :: u318 :: u319 :: u320 :: u321 :: u322 :: u323 :: u324 :: u325 :: u326 :: u327 :: u328 :: u329 :: u330 :: u331 :: u332 :: x333 :: x334 :: x335 :: x336 :: x337 :: x338 :: x339 :: x340 :: x341 :: x342 :: x343 :: x344 :: x345 :: x346 :: x347 :: x348 :: x349 :: x350 :: x351 :: x352 :: x353 :: x354 :: x355 :: x356 :: x357 :: x358 :: x359 :: x360 :: x361 :: x362 :: x363 :: x364 :: x365 :: []), []⟩ wz) := hexit
  have hmb := ck.mb
  have hn4 := ck.hn4
  clear ck h0 hexit
  conv => arg 2; arg 1; whnf
  go_loopg [27] m (fun g v wx => ∃ i : Nat, v = .int .i64 (i : Int) ∧ i + g = m ∧ Fl N ss w m gf m wx)
  case atStart => exact ⟨0, rfl, by omega, H0.out⟩
  case round =>
    obtain ⟨i, rfl, hig, hF⟩ := hrel
    have HF : Hid (Fl N ss w m gf m wr) := hF
    cases gk with
    | zero =>
      obtain rfl : i = m := by omega
      have hnl : ¬ (i : Int) < (i : Int) := by omega
      clear hF
      go_wp2_with fail
      exact HEX.out _ _ _ _ _ _ _ _ _ _ _ _ _ _ _ _ _ _ _ _ _ _ _ _ _ _ _ _ _ _ _ _ _ _ _ _ _ wr HF.out.below
    | succ g =>
      have him : i < m := by omega
      have hii : (i : Int) < (m : Int) := by omega
      have hi0 : (0 : Int) ≤ (i : Int) := by omega
      obtain ⟨s, d, hs, hd, hdn, hv⟩ := CK.out.fin.get him
      have HV : Hid (∀ wx, Below w.heap.size w wx → wx.cell? ⟨go, i * 8 + 7, none⟩ = some (.int .u32 ((orA A (lo' N s) s.hi : Nat) : Int))) := fun wx hb => CK.out.node wx hb i _ hv 7 (by omega)
      have hhn : s.hi ≤ n := by
        by_cases hz : i = 0
        · subst hz
          have h1 := CK.out.fin.inv.root
          rw [hs] at h1; cases h1
          have := CK.out.hn; show N.length ≤ n; omega
        · have h1 := (CK.out.fin.inv.good i s (by omega) hs).hin; have := CK.out.hn; omega
      have HB : Hid (∀ j, j < n → ((lo' N s ≤ j ∧ j < s.hi) → ∀ w, Calls Try.prog 21 #[.string (bs (fu N ss i)), .string (bs (nm N j))] w fun e w' => e = .returned (.bool true) ∧ w' = w) ∧
          (¬ (lo' N s ≤ j ∧ j < s.hi) → ∀ w, Calls Try.prog 21 #[.string (bs (fu N ss i)), .string (bs (nm N j))] w fun e w' => e = .returned (.bool false) ∧ w' = w)) := fun j hj => below_is CK.out hs hj
      have w4 : IntKind.i64.wrap ((i : Int) + 1) = ((i + 1 : Nat) : Int) := by rw [wrap_small _ (by omega) (by omega)]; push_cast; rfl
      clear hs hd hdn hv hF
      generalize lo' N s = l0 at *
      generalize s.hi = hi at *
      go_wp2_with fail
      go_loopg [28, 29, 340] n (fun g v28 _ v wx => ∃ j : Nat, v28 = .int .u32 ((acc A l0 hi j : Nat) : Int) ∧ v = .int .i64 (j : Int) ∧ j + g = n ∧ Fl N ss w m gf m wx)
      case atStart => exact ⟨0, by unfold acc; rw [Nat.zero_min]; rfl, rfl, by omega, HF.out⟩
      case round =>
        obtain ⟨j, rfl, rfl, hjg, hF⟩ := hrel
        have HF2 : Hid (Fl N ss w m gf m wr) := hF
        cases gk with
        | zero =>
          obtain rfl : j = n := by omega
          have hnl : ¬ (j : Int) < (j : Int) := by omega
          have hc7 := HV.out wr hF.below
          have hae : acc A l0 hi j = orA A l0 hi := by unfold acc; rw [show min j hi = hi by omega]
          rw [hae]
          generalize orA A l0 hi = z at *
          have hzz : ((z : Int) != (z : Int)) = false := by simp
          clear hF hae
          go_wp2_with fail
          go_roundg g
          case measure => omega
          case rel => exact ⟨i + 1, by go_num, by omega, HF2.out⟩
        | succ g2 =>
          have hjn : j < n := by omega
          have hji : (j : Int) < (n : Int) := by omega
          have hj0 : (0 : Int) ≤ (j : Int) := by omega
          obtain ⟨b, off, han, hnc⟩ := CK.out.name wr hF.below j hjn
          have hfc := hF.cell him
          rw [if_pos him] at hfc
          have w5 : IntKind.i64.wrap ((j : Int) + 1) = (j : Int) + 1 := wrap_small _ (by omega) (by omega)
          have HJ := HB.out j hjn
          subst han
          by_cases hin : l0 ≤ j ∧ j < hi
          · have K21 := hid (HJ.1 hin)
            have hac := acc_in A hin.1 hin.2
            have haj : A.getD j 0 < 4294967296 := CK.out.hA j
            have hal : acc A l0 hi j < 4294967296 := orA_lt A CK.out.hA _ _
            have HCA : Hid (∀ wx, Below w.heap.size w wx → wx.cell? ⟨gA, j, none⟩ = some (.int .u32 ((A.getD j 0 : Nat) : Int))) := fun wx hb => CK.out.all wx hb j hjn
            have hor : bits .or .u32 ((acc A l0 hi j : Nat) : Int) ((A.getD j 0 : Nat) : Int) = ((acc A l0 hi (j + 1) : Nat) : Int) := by rw [u32_or_nat _ _ hal haj, hac]
            obtain ⟨y, hy⟩ : ∃ y, acc A l0 hi (j + 1) = y := ⟨_, rfl⟩
            rw [hy] at hor
            generalize acc A l0 hi j = x at *
            generalize A.getD j 0 = aj at *
            generalize bs (fu N ss i) = bf at *
            generalize bs (nm N j) = bn at *
            replace hy := hid hy
            clear hin HJ hF hac
            go_wp2_with fail
            go_quiet ((go_at_call 21; exact Calls.quiet_of_same (K21.out _)))
            go_upto_region 67 with fail
            refine at_world (fun wx => Fl N ss w m gf m wx) (HF2.out.below' (below_drewN (Below.refl _ _) _)) ?_
            intro wb HB2
            have hca := HCA.out wb HB2.below
            replace HB2 := hid HB2
            clear hfc hnc
            go_wp2_with fail
            go_roundg g2
            case measure => omega
            case rel => exact ⟨j + 1, by rw [hy.out], by go_num, by omega, HB2.out⟩
          · have K21 := hid (HJ.2 hin)
            have hac := acc_out A hin
            have HAC : Hid (acc A l0 hi j = acc A l0 hi (j + 1)) := hac.symm
            generalize acc A l0 hi j = x at *
            generalize bs (fu N ss i) = bf at *
            generalize bs (nm N j) = bn at *
            clear hin HJ hF hac
            go_wp2_with fail
            go_quiet ((go_at_call 21; exact Calls.quiet_of_same (K21.out _)))
            go_wp2_with fail
            go_roundg g2
            case measure => omega
            case rel => exact ⟨j + 1, by rw [HAC.out], by go_num, by omega, HF2.out.below' (below_drewN (Below.refl _ _) _)⟩

end Go.Proofs.Qxb6600888a
