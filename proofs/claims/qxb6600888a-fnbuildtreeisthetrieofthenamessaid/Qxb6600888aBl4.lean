import Derived.Test.Qxb6600888aBel
namespace Go.Proofs.Qxb6600888a
open Go.RowKit
set_option linter.unusedVariables false
set_option linter.unusedSimpArgs false

noncomputable def body4 : Code := ((Try.f17.body.map loops).getD []).getD 3 .skip

set_option maxHeartbeats 8000000 in
set_option maxRecDepth 1000000 in
theorem L4 {N : List Str} {C A : List Nat} {w : World} {gt : Nat} {gN cN gH cH m : Nat} {ss : List St} {dd : List Dy} {nv : List Nv} (hA : ∀ j, A.getD j 0 < 4294967296) (hm4 : m ≤ 8193) (wr : World) (h0 : S4 N C A w gN cN gH cH m ss dd m nv wr)
    (K : Act → World → Prop) (Rr : Ending → World → Prop) (u1 u2 u5 u6 u7 u8 u9 u10 u11 u12 u13 u14 u15 u16 u17 u19 u20 u21 u22 u23 u24 u25 u26 u27 u28 u29 u30 u31 u32 u33 u34 u35 u36 u37 u38 u39 u40 u41 u42 u43 u44 u45 u46 u47 u48 u49 u50 u51 u52 u53 u54 u55 u56 u57 u58 u59 u60 u61 u62 u63 u64 u65 u66 u67 u68 u69 u70 u71 u72 u73 u74 u75 u76 u77 u78 u79 u80 u81 u82 u83 u84 u85 u86 u87 u88 u89 u90 u91 u92 u93 u94 u95 u96 u97 u98 u99 u100 u101 u102 u103 u104 u105 u106 u107 u108 u109 u110 u111 u112 u113 u114 u115 u116 u117 u118 u119 u120 u121 u122 u123 u124 u125 u126 u127 u128 u129 u130 u131 u132 u133 u134 u135 u136 u137 u138 u139 u140 u141 u142 u143 u144 u145 u146 u147 u148 u149 u150 u151 u152 u153 u154 u155 u156 u157 u158 u159 u160 u161 u162 u163 u164 u165 u166 u167 u168 u169 u170 u171 u172 u173 u174 u175 u176 u177 u178 u179 u180 u181 u182 u183 u184 u185 u186 u187 u188 u189 u190 u191 u192 u193 u194 u195 u196 u197 u198 u199 u200 u201 u202 u203 u204 u205 u206 u207 u208 u209 u210 u211 u212 u213 u214 u215 u216 u217 u218 u219 u220 u221 u222 u223 u224 u225 u226 u227 u228 u229 u230 u231 u232 u233 u234 u235 u236 u237 u238 u239 u240 u241 u242 u243 u244 u245 u246 u247 u248 u249 u250 u251 u252 u253 u254 u255 u256 u257 u258 u259 u260 u261 u262 u263 u264 u265 u266 u267 u268 u269 u270 u271 u272 u273 u274 u275 u276 u277 u278 u279 u280 u281 u282 u283 u284 u285 u286 u287 u288 u289 u290 u291 u292 u293 : Value)
    (hexit : ∀ (x19 x21 x246 x247 x248 x249 x250 x251 x252 x253 x254 x255 x256 x257 x258 x259 x260 x261 x262 x263 x264 x265 x266 x267 x268 x269 x270 x271 x272 x273 x274 x275 x276 x277 x278 x279 x280 x281 x282 x283 x284 x285 : Value) (nv' : List Nv) (wz : World), S4 N C A w gN cN gH cH m ss dd 0 nv' wz → K ⟨List.toArray ((Value.pointer (some ⟨gt, 0, none⟩)) :: u1 :: u2 :: (Value.slice (some ⟨gN, 0, none⟩) m cN) :: (Value.slice (some ⟨gH, 0, none⟩) m cH) :: u5 :: u6 :: u7 :: u8 :: u9 :: u10 :: u11 :: u12 :: u13 :: u14 :: u15 :: u16 :: u17 :: (Value.int .i64 (-1)) :: x19 :: u20 :: x21 :: u22 :: u23 :: u24 :: u25 :: u26 :: u27 :: u28 :: u29 :: u30 :: u31 :: u32 :: u33 :: u34 :: u35 :: u36 :: u37 :: u38 :: u39 :: u40 :: u41 :: u42 :: u43 :: u44 :: u45 :: u46 :: u47 :: u48 :: u49 :: u50 :: u51 :: u52 :: u53 :: u54 :: u55 :: u56 :: u57 :: u58 :: u59 :: u60 :: u61 :: u62 :: u63 :: u64 :: u65 :: u66 :: u67 :: u68 :: u69 :: u70 :: u71 :: u72 :: u73 :: u74 :: u75 :: u76 :: u77 :: u78 :: u79 :: u80 :: u81 :: u82 :: u83 :: u84 :: u85 :: u86 :: u87 :: u88 :: u89 :: u90 :: u91 :: u92 :: u93 :: u94 :: u95 :: u96 :: u97 :: u98 :: u99 :: u100 :: u101 :: u102 :: u103 :: u104 :: u105 :: u106 :: u107 :: u108 :: u109 :: u110 :: u111 :: u112 :: u113 :: u114 :: u115 :: u116 :: u117 :: u118 :: u119 :: u120 :: u121 :: u122 :: u123 :: u124 :: u125 :: u126 :: u127 :: u128 :: u129 :: u130 :: u131 :: u132 :: u133 :: u134 :: u135 :: u136 :: u137 :: u138 :: u139 :: u140 :: u141 :: u142 :: u143 :: u144 :: u145 :: u146 :: u147 :: u148 :: u149 :: u150 :: u151 :: u152 :: u153 :: u154 :: u155 :: u156 :: u157 :: u158 :: u159 :: u160 :: u161 :: u162 :: u163 :: u164 :: u165 :: u166 :: u167 :: u168 :: u169 :: u170 :: u171 :: u172 :: u173 :: u174 :: u175 :: u176 :: u177 :: u178 :: u179 :: u180 :: u181 :: u182 :: u183 :: u184 :: u185 :: u186 :: u187 :: u188 :: u189 :: u190 :: u191 :: u192 :: u193 :: u194 :: u195 :: u196 :: u197 :: u198 :: u199 :: u200 :: u201 :: u202 :: u203 :: u204 :: u205 :: u206 :: u207 :: u208 :: u209 :: u210 :: u211 :: u212 :: u213 :: u214 :: u215 :: u216 :: u217 :: u218 :: u219 :: u220 :: u221 :: u222 :: u223 :: u224 :: u225 :: u226 :: u227 :: u228 :: u229 :: u230 :: u231 :: u232 :: u233 :: u234 :: u235 :: u236 :: u237 :: u238 :: u239 :: u240 :: u241 :: u242 :: u243 :: u244 :: u245 :: x246 :: x247 :: x248 :: x249 :: x250 :: x251 :: x252 :: x253 :: x254 :: x255 :: x256 :: x257 :: x258 :: x259 :: x260 :: x261 :: x262 :: x263 :: x264 :: x265 :: x266 :: x267 :: x268 :: x269 :: x270 :: x271 :: x272 :: x273 :: x274 :: x275 :: x276 :: x277 :: x278 :: x279 :: x280 :: x281 :: x282 :: x283 :: x284 :: x285 :: u286 :: u287 :: u288 :: u289 :: u290 :: u291 :: u292 :: u293 :: []), []⟩ wz) :
    Code.wp Try.prog (Code.loop body4) (Exit.inBlock 6 (Exit.then K (bodyPost Try.prog Try.f17 Rr))) ⟨List.toArray ((Value.pointer (some ⟨gt, 0, none⟩)) :: u1 :: u2 :: (Value.slice (some ⟨gN, 0, none⟩) m cN) :: (Value.slice (some ⟨gH, 0, none⟩) m cH) :: u5 :: u6 :: u7 :: u8 :: u9 :: u10 :: u11 :: u12 :: u13 :: u14 :: u15 :: u16 :: u17 :: (Value.int .i64 ((m : Int) - 1)) :: u19 :: u20 :: u21 :: u22 :: u23 :: u24 :: u25 :: u26 :: u27 :: u28 :: u29 :: u30 :: u31 :: u32 :: u33 :: u34 :: u35 :: u36 :: u37 :: u38 :: u39 :: u40 :: u41 :: u42 :: u43 :: u44 :: u45 :: u46 :: u47 :: u48 :: u49 :: u50 :: u51 :: u52 :: u53 :: u54 :: u55 :: u56 :: u57 :: u58 :: u59 :: u60 :: u61 :: u62 :: u63 :: u64 :: u65 :: u66 :: u67 :: u68 :: u69 :: u70 :: u71 :: u72 :: u73 :: u74 :: u75 :: u76 :: u77 :: u78 :: u79 :: u80 :: u81 :: u82 :: u83 :: u84 :: u85 :: u86 :: u87 :: u88 :: u89 :: u90 :: u91 :: u92 :: u93 :: u94 :: u95 :: u96 :: u97 :: u98 :: u99 :: u100 :: u101 :: u102 :: u103 :: u104 :: u105 :: u106 :: u107 :: u108 :: u109 :: u110 :: u111 :: u112 :: u113 :: u114 :: u115 :: u116 :: u117 :: u118 :: u119 :: u120 :: u121 :: u122 :: u123 :: u124 :: u125 :: u126 :: u127 :: u128 :: u129 :: u130 :: u131 :: u132 :: u133 :: u134 :: u135 :: u136 :: u137 :: u138 :: u139 :: u140 :: u141 :: u142 :: u143 :: u144 :: u145 :: u146 :: u147 :: u148 :: u149 :: u150 :: u151 :: u152 :: u153 :: u154 :: u155 :: u156 :: u157 :: u158 :: u159 :: u160 :: u161 :: u162 :: u163 :: u164 :: u165 :: u166 :: u167 :: u168 :: u169 :: u170 :: u171 :: u172 :: u173 :: u174 :: u175 :: u176 :: u177 :: u178 :: u179 :: u180 :: u181 :: u182 :: u183 :: u184 :: u185 :: u186 :: u187 :: u188 :: u189 :: u190 :: u191 :: u192 :: u193 :: u194 :: u195 :: u196 :: u197 :: u198 :: u199 :: u200 :: u201 :: u202 :: u203 :: u204 :: u205 :: u206 :: u207 :: u208 :: u209 :: u210 :: u211 :: u212 :: u213 :: u214 :: u215 :: u216 :: u217 :: u218 :: u219 :: u220 :: u221 :: u222 :: u223 :: u224 :: u225 :: u226 :: u227 :: u228 :: u229 :: u230 :: u231 :: u232 :: u233 :: u234 :: u235 :: u236 :: u237 :: u238 :: u239 :: u240 :: u241 :: u242 :: u243 :: u244 :: u245 :: u246 :: u247 :: u248 :: u249 :: u250 :: u251 :: u252 :: u253 :: u254 :: u255 :: u256 :: u257 :: u258 :: u259 :: u260 :: u261 :: u262 :: u263 :: u264 :: u265 :: u266 :: u267 :: u268 :: u269 :: u270 :: u271 :: u272 :: u273 :: u274 :: u275 :: u276 :: u277 :: u278 :: u279 :: u280 :: u281 :: u282 :: u283 :: u284 :: u285 :: u286 :: u287 :: u288 :: u289 :: u290 :: u291 :: u292 :: u293 :: []), []⟩ wr := by
  have H0 : Hid (S4 N C A w gN cN gH cH m ss dd m nv wr) := h0
  have HA : Hid (∀ j, A.getD j 0 < 4294967296) := hA
  have HEX : Hid (∀ (x19 x21 x246 x247 x248 x249 x250 x251 x252 x253 x254 x255 x256 x257 x258 x259 x260 x261 x262 x263 x264 x265 x266 x267 x268 x269 x270 x271 x272 x273 x274 x275 x276 x277 x278 x279 x280 x281 x282 x283 x284 x285 : Value) (nv' : List Nv) (wz : World), S4 N C A w gN cN gH cH m ss dd 0 nv' wz → K ⟨List.toArray ((Value.pointer (some ⟨gt, 0, none⟩)) :: u1 :: u2 :: (Value.slice (some ⟨gN, 0, none⟩) m cN) :: (Value.slice (some ⟨gH, 0, none⟩) m cH) :: u5 :: u6 :: u7 :: u8 :: u9 :: u10 :: u11 :: u12 :: u13 :: u14 :: u15 :: u16 :: u17 :: (Value.int .i64 (-1)) :: x19 :: u20 :: x21 :: u22 :: u23 :: u24 :: u25 :: u26 :: u27 :: u28 :: u29 :: u30 :: u31 :: u32 :: u33 :: u34 :: u35 :: u36 :: u37 :: u38 :: u39 :: u40 :: u41 :: u42 :: u43 :: u44 :: u45 :: u46 :: u47 :: u48 :: u49 :: u50 :: u51 :: u52 :: u53 :: u54 :: u55 :: u56 :: u57 :: u58 :: u59 :: u60 :: u61 :: u62 :: u63 :: u64 :: u65 :: u66 :: u67 :: u68 :: u69 :: u70 :: u71 :: u72 :: u73 :: u74 :: u75 :: u76 :: u77 :: u78 :: u79 :: u80 :: u81 :: u82 :: u83 :: u84 :: u85 :: u86 :: u87 :: u88 :: u89 :: u90 :: u91 :: u92 :: u93 :: u94 :: u95 :: u96 :: u97 :: u98 :: u99 :: u100 :: u101 :: u102 :: u103 :: u104 :: u105 :: u106 :: u107 :: u108 :: u109 :: u110 :: u111 :: u112 :: u113 :: u114 :: u115 :: u116 :: u117 :: u118 :: u119 :: u120 :: u121 :: u122 :: u123 :: u124 :: u125 :: u126 :: u127 :: u128 :: u129 :: u130 :: u131 :: u132 :: u133 :: u134 :: u135 :: u136 :: u137 :: u138 :: u139 :: u140 :: u141 :: u142 :: u143 :: u144 :: u145 :: u146 :: u147 :: u148 :: u149 :: u150 :: u151 :: u152 :: u153 :: u154 :: u155 :: u156 :: u157 :: u158 :: u159 :: u160 :: u161 :: u162 :: u163 :: u164 :: u165 :: u166 :: u167 :: u168 :: u169 :: u170 :: u171 :: u172 :: u173 :: u174 :: u175 :: u176 :: u177 :: u178 :: u179 :: u180 :: u181 :: u182 :: u183 :: u184 :: u185 :: u186 :: u187 :: u188 :: u189 :: u190 :: u191 :: u192 :: u193 :: u194 :: u195 :: u196 :: u197 :: u198 :: u199 :: u200 :: u201 :: u202 :: u203 :: u204 :: u205 :: u206 :: u207 :: u208 :: u209 :: u210 :: u211 :: u212 :: u213 :: u214 :: u215 :: u216 :: u217 :: u218 :: u219 :: u220 :: u221 :: u222 :: u223 :: u224 :: u225 :: u226 :: u227 :: u228 :: u229 :: u230 :: u231 :: u232 :: u233 :: u234 :: u235 :: u236 :: u237 :: u238 :: u239 :: u240 :: u241 :: u242 :: u243 :: u244 :: u245 :: x246 :: x247 :: x248 :: x249 :: x250 :: x251 :: x252 :: x253 :: x254 :: x255 :: x256 :: x257 :: x258 :: x259 :: x260 :: x261 :: x262 :: x263 :: x264 :: x265 :: x266 :: x267 :: x268 :: x269 :: x270 :: x271 :: x272 :: x273 :: x274 :: x275 :: x276 :: x277 :: x278 :: x279 :: x280 :: x281 :: x282 :: x283 :: x284 :: x285 :: u286 :: u287 :: u288 :: u289 :: u290 :: u291 :: u292 :: u293 :: []), []⟩ wz) := hexit
  clear hA h0 hexit
  conv => arg 2; arg 1; whnf
  go_loopg [18] m (fun g v wx => v = .int .i64 ((g : Int) - 1) ∧ ∃ nv, g ≤ m ∧ S4 N C A w gN cN gH cH m ss dd g nv wx)
  case atStart => exact ⟨rfl, nv, Nat.le_refl _, H0.out⟩
  case round =>
    obtain ⟨rfl, nv, hgm, hS⟩ := hrel
    cases gk with
    | zero =>
      have HS : Hid (S4 N C A w gN cN gH cH m ss dd 0 nv wr) := hS
      clear hS
      go_wp2_with fail
      exact HEX.out _ _ _ _ _ _ _ _ _ _ _ _ _ _ _ _ _ _ _ _ _ _ _ _ _ _ _ _ _ _ _ _ _ _ _ _ _ _ _ _ _ _ nv wr HS.out
    | succ i =>
      have hil : i < m := by omega
      obtain ⟨s, hs⟩ : ∃ s, ss[i]? = some s := ⟨ss[i]'(by rw [hS.sl]; exact hil), List.getElem?_eq_getElem _⟩
      obtain ⟨d, hd⟩ : ∃ d, dd[i]? = some d := ⟨dd[i]'(by rw [hS.inv.len]; exact hil), List.getElem?_eq_getElem _⟩
      have hdone := hS.inv.done i s d hs hd
      have hfit : d.first + d.count ≤ m := by have := hdone.fits; rw [hS.sl] at this; exact this
      have hcap := (own_at hS.nd)
      obtain ⟨_, cur, _, _, hmc, hcm, _⟩ := hcap
      obtain ⟨ad, c', hsl, had⟩ := kids_slice gN cN m d.first d.count hmc hfit hcm
      obtain ⟨e, he⟩ : ∃ e, e = d.first + d.count := ⟨_, rfl⟩
      rw [← he] at hsl
      have hv := hS.at_ i s d hs hd
      have hc1 : wr.cell? ⟨gN, i * 8 + 1, none⟩ = some (.int .i32 (d.first : Int)) := hS.cell (f := 1) hv (by omega)
      have hc2 : wr.cell? ⟨gN, i * 8 + 2, none⟩ = some (.int .i32 (d.count : Int)) := hS.cell (f := 2) hv (by omega)
      have H5 : Hid (S5 N C A w gN cN gH cH m ss dd i s d 0 (lo' N s) nv wr) := hS.into hs hd
      have hwi : ((i + 1 : Nat) : Int) - 1 = (i : Int) := by omega
      rw [hwi]
      have hi0 : (0 : Int) ≤ (i : Int) := by omega
      have hii : (i : Int) < (m : Int) := by omega
      have hw3 : IntKind.i32.wrap ((d.first : Int) + (d.count : Int)) = (e : Int) := by rw [IntKind.wrap_i32]; omega
      replace had := hid had
      replace he := hid he
      clear hS hdone hv hmc hcm
      go_upto_region 33 with fail
      go_quiet (fail)
      go_wp2_with fail
      refine at_world (fun wx => S5 N C A w gN cN gH cH m ss dd i s d 0 (lo' N s) nv wx) (H5.out.below' (below_drewN (Below.refl _ _) _)) ?_
      intro wa H6
      replace H6 := hid H6
      clear H5 hc1 hc2 hsl
      go_loopg [21, 269] d.count (fun g _ v wx => ∃ (t mid : Nat) (nv : List Nv), v = .int .i64 (t : Int) ∧ t + g = d.count ∧ S5 N C A w gN cN gH cH m ss dd i s d t mid nv wx)
      case atStart => exact ⟨0, _, nv, rfl, by omega, H6.out⟩
      case round =>
        obtain ⟨t, mid, nv, rfl, htg, hS⟩ := hrel
        cases gk with
        | zero =>
          obtain rfl : t = d.count := by omega
          have hout : Hid (S4 N C A w gN cN gH cH m ss dd i nv wr) := hS.out
          have hnl : ¬ (d.count : Int) < (d.count : Int) := by omega
          have hwm : IntKind.i64.wrap ((i : Int) - 1) = (i : Int) - 1 := by rw [IntKind.wrap_i64]; omega
          clear hS
          go_wp2_with fail
          go_roundg i
          case measure => omega
          case rel => exact ⟨rfl, nv, by omega, hout.out⟩
        | succ g =>
          have htl : t < d.count := by omega
          have htli : (t : Int) < (d.count : Int) := by omega
          have ht0 : (0 : Int) ≤ (t : Int) := by omega
          obtain ⟨c, dc, k1, k2, k3, k4, k5⟩ := hS.kid htl
          obtain rfl := had.out (by omega)
          obtain ⟨bc, hbc⟩ : ∃ bc, orA A (lo' N c) c.hi = bc := ⟨_, rfl⟩
          rw [hbc] at k3 k5
          have hbcl : bc < 4294967296 := by rw [← hbc]; exact orA_lt A HA.out _ _
          have hall : dc.all < 4294967296 := by
            have hdn := hS.inv.done _ c dc k1 k2
            cases hdf : dc.dfn with
            | false => rw [(hdn.no hdf).2.1]; omega
            | true => rw [(hdn.yes hdf).2.1]; exact HA.out _
          obtain ⟨acc, hacc⟩ : ∃ acc, orA A (lo' N s) mid = acc := ⟨_, rfl⟩
          have haccl : acc < 4294967296 := by rw [← hacc]; exact orA_lt A HA.out _ _
          rw [hacc] at k5
          have hor1 : bits .or .u32 (bc : Int) (dc.all : Int) = ((bc ||| dc.all : Nat) : Int) := u32_or_nat _ _ hbcl hall
          have hy : bc ||| dc.all < 4294967296 := Nat.or_lt_two_pow (n := 32) hbcl hall
          obtain ⟨y, hyy⟩ : ∃ y, bc ||| dc.all = y := ⟨_, rfl⟩
          rw [hyy] at hor1 hy k5
          have hor2 : bits .or .u32 (acc : Int) (y : Int) = ((acc ||| y : Nat) : Int) := u32_or_nat _ _ haccl hy
          obtain ⟨z, hz⟩ : ∃ z, acc ||| y = z := ⟨_, rfl⟩
          rw [hz] at hor2 k5
          have hcell : ∀ f, f < 8 → wr.cell? ⟨gN, d.first * 8 + t * 8 + f, none⟩ = (ndc (nvOf c dc bc))[f]? := by
            intro f hf
            have := hS.cell (k := d.first + t) (f := f) k3 hf
            rw [show (d.first + t) * 8 + f = d.first * 8 + t * 8 + f by omega] at this
            exact this
          have q0 : wr.cell? ⟨gN, d.first * 8 + t * 8, none⟩ = some (.string (bs c.lab)) := hcell 0 (by omega)
          have q1 : wr.cell? ⟨gN, d.first * 8 + t * 8 + 1, none⟩ = some (.int .i32 (dc.first : Int)) := hcell 1 (by omega)
          have q2 : wr.cell? ⟨gN, d.first * 8 + t * 8 + 2, none⟩ = some (.int .i32 (dc.count : Int)) := hcell 2 (by omega)
          have q3 : wr.cell? ⟨gN, d.first * 8 + t * 8 + 3, none⟩ = some (.bool dc.dfn) := hcell 3 (by omega)
          have q4 : wr.cell? ⟨gN, d.first * 8 + t * 8 + 4, none⟩ = some (.int .u32 (dc.cat : Int)) := hcell 4 (by omega)
          have q5 : wr.cell? ⟨gN, d.first * 8 + t * 8 + 5, none⟩ = some (.int .u32 (dc.own : Int)) := hcell 5 (by omega)
          have q6 : wr.cell? ⟨gN, d.first * 8 + t * 8 + 6, none⟩ = some (.int .u32 (dc.all : Int)) := hcell 6 (by omega)
          have q7 : wr.cell? ⟨gN, d.first * 8 + t * 8 + 7, none⟩ = some (.int .u32 (bc : Int)) := hcell 7 (by omega)
          have HS : Hid (S5 N C A w gN cN gH cH m ss dd i s d t mid nv wr) := hS
          replace k4 := hid k4
          replace k5 := hid k5
          replace hacc := hid hacc
          have hw4 : IntKind.i64.wrap ((t : Int) + 1) = ((t + 1 : Nat) : Int) := by rw [wrap_small _ (by omega) (by omega)]; push_cast; rfl
          clear hS hcell k1 k2 k3 hbc hyy hz
          go_upto_region 36 with fail
          refine at_world (fun wx => S5 N C A w gN cN gH cH m ss dd i s d t mid nv wx ∧ wx.cell? ⟨wr.heap.size, 7, none⟩ = some (.int .u32 (bc : Int)) ∧ wx.cell? ⟨wr.heap.size, 6, none⟩ = some (.int .u32 (dc.all : Int))) ⟨HS.out.below' ((Below.refl _ _).alloc (Nat.le_refl _) _), (RowAt.new _ _ _).cell 7, (RowAt.new _ _ _).cell 6⟩ ?_
          rintro wb ⟨HT, r7, r6⟩
          generalize wr.heap.size = gc at r7 r6 ⊢
          have hN7 : wb.cell? ⟨gN, i * 8 + 7, none⟩ = some (.int .u32 (acc : Int)) := by
            have := HT.cell (f := 7) HT.here (by omega)
            rw [this, ← hacc.out]; rfl
          have hf7 : wb.frozen? ⟨gN, i * 8 + 7, none⟩ = false := HT.nd.frozenAt _
          replace HT := hid HT
          clear q0 q1 q2 q3 q4 q5 q6 q7 HS
          have HV : Hid (∃ nv', S5 N C A w gN cN gH cH m ss dd i s d (t + 1) c.hi nv' (wb.setCell ⟨gN, i * 8 + 7, none⟩ (.int .u32 (z : Int))).drew) := ⟨_, (HT.out.store k4.out k5.out).below' (below_drewN (n := 1) (Below.refl _ _))⟩
          go_region
          all_goals (go_wp2_with fail; go_roundg g)
          all_goals (first
            | (case measure => omega)
            | (case rel =>
                obtain ⟨nv', HU⟩ := HV.out
                exact ⟨t + 1, c.hi, nv', by go_num, by omega, HU⟩))

end Go.Proofs.Qxb6600888a
