import Derived.Test.Qxb6001690aField3
import Derived.Lib.AppendStr
import Derived.Lib.BufferRead
namespace Go.Proofs.Qxb6001690a
open Go.RowKit
set_option linter.unusedVariables false
set_option linter.unusedSimpArgs false

theorem Try.info5 : (Try.prog.info? 5).map (fun i => (i.zero, i.size, i.bytes)) = some (some (.int .u8 0), 1, 1) := by kernel_rfl

/-- A slice of bytes of our own, blocks from B on: these bytes. -/
def BufAt (w : World) (B : Nat) (a : Option Addr) (c : Nat) (l : List UInt8) : Prop :=
  w.ownsRow B 5 1 (.slice a l.length c) l.length (Lib.byteCells l) ∧ B ≤ w.heap.size

theorem BufAt.nil (w : World) (B : Nat) (h : B ≤ w.heap.size) : BufAt w B none 0 [] := ⟨World.ownsRow_nil _ _ _ _, h⟩
theorem slice_of_owns {w : World} {B : Nat} {e : TypeId} {size : Nat} {v : Value} {n : Nat} {xs : List Value} (h : w.ownsRow B e size v n xs) : ∃ a c, v = .slice a n c := by
  rcases h.2 with ⟨rfl, rfl⟩ | ⟨g, cap, cur, rfl, _⟩
  · exact ⟨_, _, rfl⟩
  · exact ⟨_, _, rfl⟩
theorem BufAt.block {w : World} {B : Nat} {a : Option Addr} {c : Nat} {l : List UInt8} (h : BufAt w B a c l) : ∀ k, (Value.slice a l.length c).ownBlock = some k → B ≤ k ∧ k < w.heap.size := h.1.lt
theorem BufAt.alloc {w : World} {B : Nat} {a : Option Addr} {c : Nat} {l : List UInt8} (h : BufAt w B a c l) (o : Obj) : BufAt (w.alloc o) B a c l :=
  ⟨h.1.alloc o, by have := h.2; simp; omega⟩
theorem BufAt.setBelow {w : World} {B : Nat} {a : Option Addr} {c : Nat} {l : List UInt8} (h : BufAt w B a c l) {p : Addr} (hp : p.block < B) (u : Value) : BufAt (w.setCell p u) B a c l :=
  ⟨ownsRow_setCell_below h.1 hp u, by have := h.2; simpa using this⟩

theorem BufAt.made {w w' : World} {B : Nat} {v v' : Value} {l l' : List UInt8} {n : Nat} (hB : B ≤ w.heap.size) (hv : ∀ k, v.ownBlock = some k → B ≤ k) (hn : n = (l ++ l').length)
    (h1 : w'.ownsRow B 5 1 v' n (Lib.byteCells l ++ Lib.byteCells l')) (h2 : w.grownBy w' v.ownBlock) :
    Below B w w' ∧ ∃ a c, v' = .slice a n c ∧ BufAt w' B a c (l ++ l') := by
  refine ⟨(Below.refl _ _).grown h2 hB hv, ?_⟩
  obtain ⟨a, c, rfl⟩ := slice_of_owns h1
  subst hn
  refine ⟨a, c, rfl, ?_, ?_⟩
  · rw [Lib.byteCells_append]; exact h1
  · have := h2.size; omega

/-- 'append(buf, s...)', s a string. -/
theorem wpList_append_str {ops : Array Oper} {rest : List Oper} {o : Oper} {a : Act} {Q : Exit → Act → World → Prop} (w : World) (hgd : o.guard = none) (sl x : Operand)
    (ho : o.op = .call { callee := .builtin .append, args := #[sl, x], argTypes := #[33, 9] }) (B : Nat) (p : Option Addr) (c n : Nat) (l : List UInt8) (hs : a.eval sl = .slice p n c) (hn : n = l.length) (hb : BufAt w B p c l)
    (s : ByteArray) (hx : a.eval x = .string s) (hlim : l.length + s.size ≤ 1099511627776)
    (h : ∀ p' c' n' w', n' = (l ++ s.data.toList).length → BufAt w' B p' c' (l ++ s.data.toList) → Below B w w' → wpList Try.prog ops Q rest (a.put o.dst (.slice p' n' c')) w') : wpList Try.prog ops Q (o :: rest) a w := by
  obtain ⟨i, hi, hz0, hz1, hz2⟩ := info_parts Try.info5
  subst hn
  refine Lib.wpList_append_own_string w hgd sl x 33 9 ho B 5 i Try.underlying33 Try.underlying9 hi hz0 hz1 hz2 _ l.length (Lib.byteCells l) hs hb.1 s hx (by unfold maxLen; omega) (by omega) hb.2 ?_
  intro v' w' h1 h2 _
  rw [Lib.strCells_eq] at h1
  obtain ⟨hB, p', c', rfl, hb'⟩ := BufAt.made hb.2 (fun k hk => (hb.block k hk).1) (by simp) h1 h2
  exact h p' c' _ w' (by simp) hb' hB

/-- 'append(buf, x, ..)' of bytes that lie in a block of their own. -/
theorem wpList_append_lit {ops : Array Oper} {rest : List Oper} {o : Oper} {a : Act} {Q : Exit → Act → World → Prop} (w : World) (hgd : o.guard = none) (sl x : Operand)
    (ho : o.op = .call { callee := .builtin .append, args := #[sl, x], argTypes := #[33, 33] }) (B : Nat) (p : Option Addr) (c n : Nat) (l : List UInt8) (hs : a.eval sl = .slice p n c) (hn : n = l.length) (hb : BufAt w B p c l)
    (l' : List UInt8) (ad : Addr) (m c' : Nat) (hx : a.eval x = .slice (some ad) m c') (hm : m = l'.length) (hnews : ∀ j u, (Lib.byteCells l')[j]? = some u → w.cell? (ad.add j) = some u) (hlim : l.length + l'.length ≤ 1099511627776)
    (h : ∀ p' c' n' w', n' = (l ++ l').length → BufAt w' B p' c' (l ++ l') → Below B w w' → wpList Try.prog ops Q rest (a.put o.dst (.slice p' n' c')) w') : wpList Try.prog ops Q (o :: rest) a w := by
  obtain ⟨i, hi, hz0, hz1, hz2⟩ := info_parts Try.info5
  subst hn hm
  refine wpList_append_own w hgd sl x 33 ho B 5 i (.int .u8 0) 1 1 Try.underlying33 hi hz0 hz1 hz2 rfl (by decide) _ l.length (Lib.byteCells l) hs hb.1 ad l'.length c' (Lib.byteCells l') hx (by simp [Lib.byteCells]) hnews ?_ (by unfold maxLen; omega) (by omega) hb.2 ?_
  · intro u hu
    obtain ⟨_, _, rfl⟩ := List.mem_map.1 hu
    rfl
  intro v' w' h1 h2 _
  obtain ⟨hB, p', c', rfl, hb'⟩ := BufAt.made hb.2 (fun k hk => (hb.block k hk).1) (by simp) h1 h2
  exact h p' c' _ w' (by simp) hb' hB

/-- 'string(buf)'. -/
theorem BufAt.text {w : World} {B : Nat} {p : Option Addr} {c n : Nat} {l : List UInt8} (h : BufAt w B p c l) (hn : n = l.length) : (convert 33 9 (.slice p n c)).run Try.prog w = .ok (.string ⟨l.toArray⟩) w := by
  subst hn
  rcases h.1.2 with ⟨h1, h2⟩ | ⟨g, cap, cur, h1, _, hg, _, _, _, htk⟩
  · simp only [Value.slice.injEq] at h1
    obtain ⟨rfl, h3, rfl⟩ := h1
    have : l = [] := List.eq_nil_of_length_eq_zero h2
    subst this
    exact Lib.run_convert_nil_bytes w 33 9 5 0 Try.underlying33 Try.underlying5 Try.underlying9
  · simp only [Value.slice.injEq] at h1
    obtain ⟨rfl, h3, rfl⟩ := h1
    exact run_convert_bytes_back w 33 9 5 _ c l Try.underlying33 Try.underlying5 Try.underlying9 (Lib.bytes_of_row hg (by simpa using htk))

end Go.Proofs.Qxb6001690a
