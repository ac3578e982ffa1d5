import Derived.Test.Qxb6600888aOwn
import Derived.Deep.RegionLaw
import Derived.Deep.CutBlock
namespace Go.Proofs.Qxb6600888a
open Go.RowKit
set_option linter.unusedVariables false
set_option linter.unusedSimpArgs false

theorem step_append_fits {P : Program} {ops : Array Oper} {o : Oper} {a : Act} {w : World} {K : Act → World → Prop} {Q : Exit → Act → World → Prop} {E : Prop}
    (hg : o.guard = none) (s x : Operand) (t : TypeId) (hop : o.op = Op.call { callee := Callee.builtin Builtin.append, args := #[s, x], argTypes := #[t, t] })
    (base : Nat) (e : TypeId) (i : TypeInfo) (size : Nat) (h1 : P.underlying t = some (.slice e)) (h2 : P.info? e = some i) (h4 : i.size = size)
    (g k cap : Nat) (xs : List Value) (hs : a.eval s = .slice (some ⟨g, 0, none⟩) k cap) (hown : w.ownsRow base e size (.slice (some ⟨g, 0, none⟩) k cap) k xs) (ad : Addr) (m c : Nat) (news : List Value) (hx : a.eval x = .slice (some ad) m c) (hn : news.length = m * size)
    (hc : ∀ j u, news[j]? = some u → w.cell? (ad.add j) = some u) (h1c : ∀ u ∈ news, u.oneCell' = true) (b1 : k + m ≤ cap)
    (hK : ∀ w', w'.ownsRow base e size (.slice (some ⟨g, 0, none⟩) (k + m) cap) (k + m) (xs ++ news) → w.grownBy w' (some g) → K (a.put o.dst (.slice (some ⟨g, 0, none⟩) (k + m) cap)) w') :
    if Region.wanted o (yielded ops a.tmps) = true then Oper.wp P o a w K Q else E := by
  have hw : Region.wanted o (yielded ops a.tmps) = true := by simp [Region.wanted, hg]
  rw [if_pos hw]
  obtain ⟨w', hrun, r1, r2⟩ := run_append_fits (P := P) w base t o.type e i size h1 h2 h4 g k cap xs hown ad m c news hn hc h1c b1
  unfold Oper.wp
  simp [execOp, hop, resolve, invoke, builtin, hs, hx, hrun, Result.andThen]
  exact hK w' r1 r2

def dfc (N : List Str) (C A : List Nat) (j : Nat) : List Value := [.string (bs (nm N j)), .int .i64 0, .int .u32 (C.getD j 0), .pointer none, .int .u32 (A.getD j 0)]

theorem made_take (z : Array Value) (q k : Nat) (hz : 0 < z.size) (hk : k ≤ z.size) (hkq : k ≤ q) : (madeCells z q).toList.take k = z.toList.take k := by
  apply List.ext_getElem?
  intro j
  by_cases hj : j < k
  · rw [List.getElem?_take, if_pos hj, List.getElem?_take, if_pos hj]
    have h1 : (madeCells z q).toList[j]? = some (z[j % z.size]!) := by
      unfold madeCells
      rw [Array.getElem?_toList, Array.getElem?_map, Array.getElem?_range]
      simp; omega
    rw [h1, Nat.mod_eq_of_lt (by omega), getElem!_pos z j (by omega), Array.getElem?_toList, Array.getElem?_eq_getElem (by omega)]
  · rw [List.getElem?_take, if_neg hj, List.getElem?_take, if_neg hj]

/-- A new row of cap records, of which one stands. -/
theorem made_own (w : World) (base e : Nat) (z : Array Value) (cap : Nat) (hb : base ≤ w.heap.size) (hcap : 1 ≤ cap) (hm : cap ≤ 1048576) (hz : 0 < z.size) :
    (w.alloc (.cells (madeCells z (cap * z.size)) e)).ownsRow base e z.size (.slice (some ⟨w.heap.size, 0, none⟩) 1 cap) 1 z.toList := by
  refine ⟨by simp, .inr ⟨w.heap.size, cap, _, rfl, hb, heap_alloc_new w _, hcap, by unfold maxLen; omega, size_madeCells _ _, ?_⟩⟩
  have : z.size ≤ cap * z.size := Nat.le_mul_of_pos_left _ (by omega)
  rw [Nat.one_mul, made_take z _ _ hz (Nat.le_refl _) this]
  exact List.take_of_length_le (by simp)

theorem grown_below {B : Nat} {w w' : World} {g : Nat} (h : w.grownBy w' (some g)) (hg : B ≤ g) (hB : B ≤ w.heap.size) : Below B w w' :=
  ⟨h.os, h.tape, h.output, h.size, fun k hk => h.block k (by omega) (by simp; omega)⟩

def sp0 (n : Nat) : List Value := [.int .i64 0, .int .i64 n, .int .i64 0]
theorem sp0_one (n : Nat) : ∀ u ∈ sp0 n, u.oneCell' = true := by
  intro u hu
  simp only [sp0, List.mem_cons, List.not_mem_nil, or_false] at hu
  rcases hu with rfl | rfl | rfl <;> rfl

theorem new_cells {w : World} {g : Nat} {cs : List Value} {e : TypeId} (h : RowAt w g e cs.toArray) : ∀ j u, cs[j]? = some u → w.cell? ((⟨g, 0, none⟩ : Addr).add j) = some u := by
  intro j u hu
  have := h.cell j
  rw [Addr.add_lit, Nat.zero_add, this]; simpa using hu


theorem own_kept {w w' : World} {B e size g c n : Nat} {xs : List Value} (h : w.ownsRow B e size (.slice (some ⟨g, 0, none⟩) n c) n xs) {r : Nat} (hk : Kept (· = r) w w') (hne : g ≠ r) : w'.ownsRow B e size (.slice (some ⟨g, 0, none⟩) n c) n xs :=
  own_other h (hk.block g (own_lt h) hne)

/-- 'append' of one record to a row of the call's own; it may grow. -/
theorem app_one {P : Program} {ops : Array Oper} {rest : List Oper} {o : Oper} {a : Act} {Q : Exit → Act → World → Prop} (hgd : o.guard = none) (s x : Operand) (t : TypeId)
    (ho : o.op = .call { callee := .builtin .append, args := #[s, x], argTypes := #[t, t] })
    (B e : Nat) (z : Value) (size bytes : Nat) (ht : P.underlying t = some (.slice e)) (hinfo : (P.info? e).map (fun i => (i.zero, i.size, i.bytes)) = some (some z, size, bytes)) (hzs : z.cells.size = size) (hsz : 0 < size)
    (wk : World) (g c m : Nat) (xs cs : List Value) (hs : a.eval s = .slice (some ⟨g, 0, none⟩) m c) (hx : a.eval x = .slice (some ⟨wk.heap.size, 0, none⟩) 1 1) (hcs : cs.length = 1 * size) (h1c : ∀ u ∈ cs, u.oneCell' = true) (hby : bytes ≤ 100)
    (hown : wk.ownsRow B e size (.slice (some ⟨g, 0, none⟩) m c) m xs) (hB : B ≤ wk.heap.size) (hm : m ≤ 100000)
    (hK : ∀ g' c' w', w'.ownsRow B e size (.slice (some ⟨g', 0, none⟩) (m + 1) c') (m + 1) (xs ++ cs) → Kept (· = g) wk w' → wpList P ops Q rest (a.put o.dst (.slice (some ⟨g', 0, none⟩) (m + 1) c')) w') :
    wpList P ops Q (o :: rest) a (wk.alloc (.cells cs.toArray e)) := by
  obtain ⟨i, hi, h0, h1, h2⟩ := info_parts hinfo
  refine wpList_append_own _ hgd s x t ho B e i z size bytes ht hi h0 h1 h2 hzs hsz _ m xs hs (hown.alloc _) ⟨wk.heap.size, 0, none⟩ 1 1 cs hx hcs (new_cells (RowAt.new _ _ _)) h1c (by unfold maxLen; omega) ?_ (by simp; omega) ?_
  · have : (m + 1) * bytes ≤ 100001 * 100 := Nat.mul_le_mul (by omega) hby
    omega
  · intro v' w' ho' hg' _
    obtain ⟨g', c', rfl⟩ := own_shape ho' (by omega)
    refine hK g' c' w' ho' ⟨hg'.os, hg'.tape, hg'.output, ?_, fun k hk hne => ?_⟩
    · have := hg'.size; simp at this; omega
    · rw [hg'.block k (by simp; omega) (by simpa [Value.ownBlock] using hne)]
      exact Below.heap_alloc _ _ _ hk

end Go.Proofs.Qxb6600888a
