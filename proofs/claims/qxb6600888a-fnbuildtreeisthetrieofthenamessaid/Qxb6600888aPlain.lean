namespace Go.Proofs.Qxb6600888a
set_option linter.unusedVariables false
set_option linter.unusedSimpArgs false

/-! Dotted names, no Go in sight. A name is its bytes; 46 is the dot. -/
abbrev Str := List UInt8

/-- a sorts before b: byte by byte, the dot ahead of every other byte. -/
def before : Str → Str → Bool
  | [], [] => false
  | [], _ :: _ => true
  | _ :: _, [] => false
  | x :: a, y :: b => if x = y then before a b else if x = 46 then true else if y = 46 then false else decide (x.toNat < y.toNat)

def lt1 (x y : UInt8) : Bool := if x = 46 then true else if y = 46 then false else decide (x.toNat < y.toNat)
theorem before_cons (x y : UInt8) (a b : Str) : before (x :: a) (y :: b) = if x = y then before a b else lt1 x y := rfl
theorem lt1_asymm {x y : UInt8} (hne : x ≠ y) (h : lt1 x y = true) : lt1 y x = false := by
  unfold lt1 at h ⊢
  by_cases hy : y = 46
  · rw [if_pos hy]
    have hx : x ≠ 46 := fun e => hne (e.trans hy.symm)
    rw [if_neg hx, if_pos hy] at h; cases h
  · rw [if_neg hy]
    by_cases hx : x = 46
    · rw [if_pos hx]
    · rw [if_neg hx]; rw [if_neg hx, if_neg hy] at h
      simp only [decide_eq_true_eq] at h
      simp only [decide_eq_false_iff_not]; omega
theorem lt1_total {x y : UInt8} (hne : x ≠ y) (h : lt1 x y = false) : lt1 y x = true := by
  unfold lt1 at h ⊢
  by_cases hy : y = 46
  · rw [if_pos hy]
  · rw [if_neg hy]
    by_cases hx : x = 46
    · rw [if_pos hx] at h; cases h
    · rw [if_neg hx]; rw [if_neg hx, if_neg hy] at h
      simp only [decide_eq_false_iff_not] at h
      have : x.toNat ≠ y.toNat := fun e => hne (UInt8.toNat_inj.1 e)
      simp only [decide_eq_true_eq]; omega
theorem lt1_trans {x y z : UInt8} (hxy : x ≠ y) (hyz : y ≠ z) (h : lt1 x y = true) (k : lt1 y z = true) : lt1 x z = true ∧ x ≠ z := by
  constructor
  · unfold lt1 at *
    by_cases hx : x = 46
    · rw [if_pos hx]
    · rw [if_neg hx] at h ⊢
      by_cases hy : y = 46
      · rw [if_pos hy] at h; cases h
      · rw [if_neg hy] at h k
        by_cases hz : z = 46
        · rw [if_pos hz] at k; cases k
        · rw [if_neg hz] at k ⊢
          simp only [decide_eq_true_eq] at *; omega
  · rintro rfl
    rw [lt1_asymm hxy h] at k; cases k

theorem before_irrefl : ∀ a : Str, before a a = false
  | [] => rfl
  | x :: a => by rw [before_cons, if_pos rfl]; exact before_irrefl a
theorem before_asymm : ∀ {a b : Str}, before a b = true → before b a = false
  | [], [], h => by cases h
  | [], _ :: _, _ => rfl
  | _ :: _, [], h => by cases h
  | x :: a, y :: b, h => by
    rw [before_cons] at h ⊢
    by_cases e : x = y
    · subst e; rw [if_pos rfl] at h ⊢; exact before_asymm h
    · rw [if_neg e] at h; rw [if_neg (Ne.symm e)]; exact lt1_asymm e h
theorem before_trans : ∀ {a b c : Str}, before a b = true → before b c = true → before a c = true
  | [], b, c, h, k => by
    cases c with
    | nil => cases b with
      | nil => cases h
      | cons y b => cases k
    | cons z c => rfl
  | _ :: _, [], _, h, _ => by cases h
  | _ :: _, _ :: _, [], _, k => by cases k
  | x :: a, y :: b, z :: c, h, k => by
    rw [before_cons] at h k ⊢
    by_cases e : x = y
    · subst e
      rw [if_pos rfl] at h
      by_cases e2 : x = z
      · subst e2; rw [if_pos rfl] at k ⊢; exact before_trans h k
      · rw [if_neg e2] at k ⊢; exact k
    · rw [if_neg e] at h
      by_cases e2 : y = z
      · subst e2; rw [if_neg e]; exact h
      · rw [if_neg e2] at k
        obtain ⟨r1, r2⟩ := lt1_trans e e2 h k
        rw [if_neg r2]; exact r1
theorem before_append : ∀ (p a b : Str), before (p ++ a) (p ++ b) = before a b
  | [], _, _ => rfl
  | x :: p, a, b => by
    show before (x :: (p ++ a)) (x :: (p ++ b)) = _
    rw [before_cons, if_pos rfl]; exact before_append p a b

/-- a is b or sorts before it. -/
def le (a b : Str) : Prop := a = b ∨ before a b = true
theorem le.refl (a : Str) : le a a := Or.inl rfl
theorem le.trans {a b c : Str} (h : le a b) (k : le b c) : le a c := by
  rcases h with rfl | h
  · exact k
  · rcases k with rfl | k
    · exact Or.inr h
    · exact Or.inr (before_trans h k)
theorem le.antisymm {a b : Str} (h : le a b) (k : le b a) : a = b := by
  rcases h with h | h
  · exact h
  · rcases k with k | k
    · exact k.symm
    · rw [before_asymm h] at k; cases k
theorem le_append (p a b : Str) (h : le (p ++ a) (p ++ b)) : le a b := by
  rcases h with h | h
  · exact Or.inl (List.append_cancel_left h)
  · rw [before_append] at h; exact Or.inr h

/-- The dotted name p is x or a set above it. -/
def holds (p x : Str) : Prop := x = p ∨ ∃ r, x = p ++ 46 :: r
theorem holds_nil (x : Str) : holds [] x ↔ x = [] ∨ ∃ r, x = 46 :: r := Iff.rfl

theorem holds_cons {c : UInt8} {p x : Str} : holds (c :: p) x ↔ ∃ y, x = c :: y ∧ holds p y := by
  constructor
  · rintro (rfl | ⟨r, rfl⟩)
    · exact ⟨p, rfl, Or.inl rfl⟩
    · exact ⟨p ++ 46 :: r, rfl, Or.inr ⟨r, rfl⟩⟩
  · rintro ⟨y, rfl, rfl | ⟨r, rfl⟩⟩
    · exact Or.inl rfl
    · exact Or.inr ⟨r, rfl⟩

theorem le_cons_inv {c x : UInt8} {a y : Str} (h : le (c :: a) (x :: y)) : (c = x ∧ le a y) ∨ (c ≠ x ∧ lt1 c x = true) := by
  rcases h with h | h
  · cases h; exact Or.inl ⟨rfl, le.refl _⟩
  · rw [before_cons] at h
    by_cases e : c = x
    · subst e; rw [if_pos rfl] at h; exact Or.inl ⟨rfl, Or.inr h⟩
    · rw [if_neg e] at h; exact Or.inr ⟨e, h⟩

/-- What lies between two names that p holds, p holds. -/
theorem holds_conv : ∀ {p a x b : Str}, holds p a → holds p b → le a x → le x b → holds p x
  | [], a, x, b, ha, hb, h1, h2 => by
    cases x with
    | nil => exact Or.inl rfl
    | cons c y =>
      rcases hb with rfl | ⟨r, rfl⟩
      · rcases h2 with h2 | h2
        · cases h2
        · cases h2
      · rcases le_cons_inv h2 with ⟨rfl, _⟩ | ⟨hne, h⟩
        · exact Or.inr ⟨_, rfl⟩
        · exfalso
          unfold lt1 at h
          have hc : c ≠ 46 := hne
          rw [if_neg hc, if_pos rfl] at h; cases h
  | c :: p, a, x, b, ha, hb, h1, h2 => by
    obtain ⟨a', rfl, ha'⟩ := holds_cons.1 ha
    obtain ⟨b', rfl, hb'⟩ := holds_cons.1 hb
    cases x with
    | nil =>
      rcases h1 with h1 | h1
      · cases h1
      · cases h1
    | cons d y =>
      rcases le_cons_inv h1 with ⟨rfl, k1⟩ | ⟨n1, k1⟩
      · rcases le_cons_inv h2 with ⟨_, k2⟩ | ⟨n2, _⟩
        · exact holds_cons.2 ⟨y, rfl, holds_conv ha' hb' k1 k2⟩
        · exact absurd rfl n2
      · rcases le_cons_inv h2 with ⟨rfl, k2⟩ | ⟨n2, k2⟩
        · exact absurd rfl n1
        · rw [lt1_asymm n1 k1] at k2; cases k2

theorem holds_ext {q p : Str} (x : Str) : holds (q ++ p) (q ++ x) ↔ holds p x := by
  constructor
  · rintro (h | ⟨r, h⟩)
    · exact Or.inl (List.append_cancel_left h)
    · rw [List.append_assoc] at h; exact Or.inr ⟨r, List.append_cancel_left h⟩
  · rintro (rfl | ⟨r, rfl⟩)
    · exact Or.inl rfl
    · exact Or.inr ⟨r, by rw [List.append_assoc]⟩

/-- The first dotted name. -/
def fn (x : Str) : Str := x.takeWhile (· != 46)
theorem fn_nil : fn [] = [] := rfl
theorem fn_dot (r : Str) : fn (46 :: r) = [] := rfl
theorem fn_cons {c : UInt8} (h : c ≠ 46) (r : Str) : fn (c :: r) = c :: fn r := by
  unfold fn; rw [List.takeWhile_cons, if_pos (by simpa using h)]
theorem holds_fn : ∀ x : Str, holds (fn x) x
  | [] => Or.inl rfl
  | c :: r => by
    by_cases h : c = 46
    · subst h; exact Or.inr ⟨r, rfl⟩
    · rw [fn_cons h]; exact holds_cons.2 ⟨r, rfl, holds_fn r⟩
theorem fn_nodot : ∀ x : Str, ∀ c ∈ fn x, c ≠ 46
  | [], c, h => by cases h
  | d :: r, c, h => by
    by_cases hd : d = 46
    · subst hd; cases h
    · rw [fn_cons hd] at h
      cases h with
      | head => exact hd
      | tail _ h => exact fn_nodot r c h
theorem fn_of_holds : ∀ {p x : Str}, (∀ c ∈ p, c ≠ 46) → holds p x → fn x = p
  | [], x, _, h => by
    rcases h with rfl | ⟨r, rfl⟩
    · rfl
    · rfl
  | c :: p, x, hn, h => by
    obtain ⟨y, rfl, hy⟩ := holds_cons.1 h
    rw [fn_cons (hn c (by simp)), fn_of_holds (fun d hd => hn d (by simp [hd])) hy]
theorem holds_iff_fn {f x : Str} : holds (fn f) x ↔ fn x = fn f := by
  constructor
  · exact fn_of_holds (fn_nodot f)
  · intro h; rw [← h]; exact holds_fn x
theorem fn_conv {a x b : Str} (h1 : le a x) (h2 : le x b) (h : fn a = fn b) : fn x = fn a :=
  fn_of_holds (fn_nodot a) (holds_conv (holds_fn a) (by rw [h]; exact holds_fn b) h1 h2)
theorem fn_append {t : Str} (h : ∀ c ∈ t, c ≠ 46) (a : Str) : fn (t ++ a) = t ++ fn a := by
  induction t with
  | nil => rfl
  | cons c t ih => rw [List.cons_append, fn_cons (h c (by simp)), ih (fun d hd => h d (by simp [hd]))]; rfl
theorem fn_hold {p x : Str} (h : holds p x) (hp : p ≠ []) : fn x = fn p := by
  rcases h with rfl | ⟨r, rfl⟩
  · rfl
  · have : ∀ p : Str, fn (p ++ 46 :: r) = fn p := by
      intro p
      induction p with
      | nil => rfl
      | cons c p ih =>
        by_cases hc : c = 46
        · subst hc; rfl
        · rw [List.cons_append, fn_cons hc, fn_cons hc, ih]
    exact this p

/-- Dotted names joined by single dots. The flag: a name must begin here. -/
def aut : Bool → Str → Bool
  | b, [] => !b
  | b, c :: r => if c = 46 then (!b && aut true r) else aut false r
def dotted (s : Str) : Bool := aut true s
theorem aut_split : ∀ (p r : Str) (b : Bool), aut b (p ++ 46 :: r) = (aut b p && aut true r)
  | [], r, b => by simp [aut]
  | c :: p, r, b => by
    by_cases h : c = 46
    · subst h; simp only [List.cons_append, aut, if_true, aut_split p r true, Bool.and_assoc]
    · simp only [List.cons_append, aut, if_neg h, aut_split p r false]
theorem dotted_split {p r : Str} : dotted (p ++ 46 :: r) = true ↔ dotted p = true ∧ dotted r = true := by
  unfold dotted; rw [aut_split]; simp
theorem dotted_ne {s : Str} (h : dotted s = true) : s ≠ [] := by rintro rfl; cases h
theorem dotted_hold {p x : Str} (h : holds p x) (hx : dotted x = true) : dotted p = true := by
  rcases h with rfl | ⟨r, rfl⟩
  · exact hx
  · exact (dotted_split.1 hx).1

/-- By places. -/
def Dots (b : Bool) (s : Str) : Prop :=
  (b = true → s ≠ []) ∧ (b = true → s[0]? ≠ some 46) ∧ (s ≠ [] → s[s.length - 1]? ≠ some 46) ∧ ∀ i : Nat, s[i]? = some (46 : UInt8) → s[i + 1]? ≠ some (46 : UInt8)
theorem aut_iff : ∀ (s : Str) (b : Bool), aut b s = true ↔ Dots b s
  | [], b => by simp [aut, Dots]
  | c :: r, b => by
    by_cases h : c = 46
    · subst h
      simp only [aut, if_true, Bool.and_eq_true, aut_iff r true]
      unfold Dots
      constructor
      · rintro ⟨hb, h1, h2, h3, h4⟩
        have hb' : b = false := by simpa using hb
        subst hb'
        have hr := h1 rfl
        refine ⟨fun h => (by cases h), fun h => (by cases h), fun _ => ?_, fun i hi => ?_⟩
        · obtain ⟨x, t, rfl⟩ := List.exists_cons_of_ne_nil hr
          have := h3 hr
          simpa using this
        · cases i with
          | zero => simpa using h2 rfl
          | succ i => simpa using h4 i (by simpa using hi)
      · rintro ⟨h1, h2, h3, h4⟩
        have hb : b = false := by
          cases b with
          | false => rfl
          | true => exact absurd rfl (h2 rfl)
        subst hb
        have hr : r ≠ [] := by rintro rfl; exact h3 (by simp) rfl
        refine ⟨rfl, fun _ => hr, fun _ => ?_, fun _ => ?_, fun i hi => ?_⟩
        · simpa using h4 0 rfl
        · obtain ⟨x, t, rfl⟩ := List.exists_cons_of_ne_nil hr
          simpa using h3 (by simp)
        · simpa using h4 (i + 1) (by simpa using hi)
    · simp only [aut, if_neg h, aut_iff r false]
      unfold Dots
      constructor
      · rintro ⟨_, _, h3, h4⟩
        refine ⟨fun _ => by simp, fun _ => by simpa using h, fun _ => ?_, fun i hi => ?_⟩
        · cases r with
          | nil => simpa using h
          | cons x t => simpa using h3 (by simp)
        · cases i with
          | zero => exact absurd (by simpa using hi) h
          | succ i => simpa using h4 i (by simpa using hi)
      · rintro ⟨h1, h2, h3, h4⟩
        refine ⟨fun h => (by cases h), fun h => (by cases h), fun hr => ?_, fun i hi => ?_⟩
        · obtain ⟨x, t, rfl⟩ := List.exists_cons_of_ne_nil hr
          simpa using h3 (by simp)
        · simpa using h4 (i + 1) (by simpa using hi)
theorem dotted_iff (s : Str) : dotted s = true ↔ s ≠ [] ∧ s[0]? ≠ some 46 ∧ s[s.length - 1]? ≠ some 46 ∧ ∀ i : Nat, s[i]? = some (46 : UInt8) → s[i + 1]? ≠ some (46 : UInt8) := by
  unfold dotted; rw [aut_iff]; unfold Dots
  constructor
  · rintro ⟨h1, h2, h3, h4⟩; exact ⟨h1 rfl, h2 rfl, h3 (h1 rfl), h4⟩
  · rintro ⟨h1, h2, h3, h4⟩; exact ⟨fun _ => h1, fun _ => h2, fun _ => h3, h4⟩

/-- The longest common beginning. -/
def lcp : Str → Str → Nat
  | x :: a, y :: b => if x = y then lcp a b + 1 else 0
  | _, _ => 0
theorem lcp_split : ∀ a b : Str, ∃ c a' b', a = c ++ a' ∧ b = c ++ b' ∧ c.length = lcp a b ∧ ∀ x y r s, a' = x :: r → b' = y :: s → x ≠ y
  | [], b => ⟨[], [], b, rfl, rfl, by cases b <;> rfl, fun _ _ _ _ h _ => by cases h⟩
  | x :: a, [] => ⟨[], x :: a, [], rfl, rfl, rfl, fun _ _ _ _ _ h => by cases h⟩
  | x :: a, y :: b => by
    by_cases e : x = y
    · subst e
      obtain ⟨c, a', b', h1, h2, h3, h4⟩ := lcp_split a b
      exact ⟨x :: c, a', b', by rw [h1]; rfl, by rw [h2]; rfl, by simp [lcp, h3], h4⟩
    · exact ⟨[], x :: a, y :: b, rfl, rfl, by simp [lcp, e], fun _ _ _ _ h k => by cases h; cases k; exact e⟩

/-- Does a dotted name end at place i? -/
def bd (a : Str) (i : Nat) : Prop := i = a.length ∨ a[i]? = some 46
theorem bd_at (c a' : Str) : bd (c ++ a') c.length ↔ fn a' = [] := by
  unfold bd
  cases a' with
  | nil => simp [fn_nil]
  | cons x r =>
    by_cases h : x = 46
    · subst h; simp [fn_dot]
    · rw [fn_cons h]; simp [h]

/-- The shared whole-name beginning: its length p. -/
def Shared (a b : Str) (p : Nat) : Prop :=
  p ≤ a.length ∧ 0 < p ∧ holds (a.take p) a ∧ holds (a.take p) b ∧ (p < a.length → fn (a.drop (p + 1)) ≠ fn (b.drop (p + 1)))

theorem fn_ne {a' b' : Str} (h : ∀ x y r s, a' = x :: r → b' = y :: s → x ≠ y) (hb : ¬ (fn a' = [] ∧ fn b' = [])) : fn a' ≠ fn b' := by
  intro e
  have hne : fn a' ≠ [] := fun h0 => hb ⟨h0, by rw [← e]; exact h0⟩
  cases a' with
  | nil => exact hne rfl
  | cons x r =>
    cases b' with
    | nil => rw [e] at hne; exact hne rfl
    | cons y s =>
      by_cases hx : x = 46
      · subst hx; exact hne rfl
      · by_cases hy : y = 46
        · subst hy; rw [e] at hne; exact hne rfl
        · rw [fn_cons hx, fn_cons hy] at e
          injection e with e1 _
          exact h x y r s rfl rfl e1

/-- sharedPrefix, the case where both names end (or have a dot) where they part. -/
theorem shared_bd {a b : Str} (ha : dotted a = true) (hle : le a b) (h1 : bd a (lcp a b)) (h2 : bd b (lcp a b)) : Shared a b (lcp a b) := by
  obtain ⟨c, a', b', rfl, rfl, hl, hne⟩ := lcp_split a b
  rw [← hl] at h1 h2 ⊢
  have k1 := (bd_at c a').1 h1
  have k2 := (bd_at c b').1 h2
  have ha' : a' = [] := by
    cases a' with
    | nil => rfl
    | cons x r =>
      by_cases hx : x = 46
      · subst hx
        cases b' with
        | nil =>
          have := le_append c _ _ hle
          rcases this with h | h
          · cases h
          · cases h
        | cons y s =>
          by_cases hy : y = 46
          · exact absurd hy.symm (hne _ _ _ _ rfl rfl)
          · rw [fn_cons hy] at k2; cases k2
      · rw [fn_cons hx] at k1; cases k1
  subst ha'
  simp only [List.append_nil] at *
  refine ⟨Nat.le_refl _, ?_, ?_, ?_, fun h => absurd h (Nat.lt_irrefl _)⟩
  · exact List.length_pos_iff.2 (dotted_ne ha)
  · rw [List.take_length]; exact Or.inl rfl
  · rw [List.take_length]
    cases b' with
    | nil => exact Or.inl (by simp)
    | cons y s =>
      by_cases hy : y = 46
      · subst hy; exact Or.inr ⟨s, rfl⟩
      · rw [fn_cons hy] at k2; cases k2

/-- sharedPrefix, the other case: the last dot of the common beginning; there is one. -/
theorem shared_last {a b : Str} (ha : dotted a = true) (hf : fn a = fn b) (hn : ¬ (bd a (lcp a b) ∧ bd b (lcp a b))) :
    (∃ p : Nat, p < lcp a b ∧ a[p]? = some (46 : UInt8)) ∧ ∀ p : Nat, p < lcp a b → a[p]? = some (46 : UInt8) → (∀ j : Nat, p < j → j < lcp a b → a[j]? ≠ some (46 : UInt8)) → Shared a b p := by
  obtain ⟨c, a', b', rfl, rfl, hl, hne⟩ := lcp_split a b
  rw [← hl] at hn ⊢
  rw [bd_at, bd_at] at hn
  have key := fn_ne hne hn
  constructor
  · by_cases hd : ∀ x ∈ c, x ≠ (46 : UInt8)
    · exfalso
      rw [fn_append hd, fn_append hd] at hf
      exact key (List.append_cancel_left hf)
    · have : ∃ x ∈ c, x = (46 : UInt8) := by
        apply Classical.byContradiction
        intro hc
        exact hd fun x hx he => hc ⟨x, hx, he⟩
      obtain ⟨x, hx, rfl⟩ := this
      obtain ⟨p, hp, e⟩ := List.getElem_of_mem hx
      refine ⟨p, hp, ?_⟩
      rw [List.getElem?_append_left hp, List.getElem?_eq_getElem hp, e]
  · intro p hp hdot hlast
    have hcp : c[p]? = some 46 := by rw [← hdot, List.getElem?_append_left hp]
    have hsplit : c = c.take p ++ 46 :: c.drop (p + 1) := by
      have h46 : c[p] = 46 := by rw [List.getElem?_eq_getElem hp] at hcp; exact Option.some.inj hcp
      rw [← h46]
      exact (List.take_append_drop p c).symm.trans (by rw [List.drop_eq_getElem_cons hp])
    generalize hq : c.take p = q at hsplit
    generalize ht : c.drop (p + 1) = t at hsplit
    have hql : q.length = p := by rw [← hq, List.length_take]; omega
    have htd : ∀ x ∈ t, x ≠ (46 : UInt8) := by
      intro x hx e
      obtain ⟨j, hj, e2⟩ := List.getElem_of_mem hx
      rw [← ht, List.length_drop] at hj
      have hcj : c[p + 1 + j]? = some 46 := by
        rw [← e, ← e2]
        simp only [← ht, List.getElem_drop]
        rw [List.getElem?_eq_getElem]
      have := hlast (p + 1 + j) (by omega) (by omega)
      rw [List.getElem?_append_left (by omega)] at this
      exact this hcj
    subst hsplit
    have e1 : (q ++ 46 :: t) ++ a' = q ++ 46 :: (t ++ a') := by simp
    have e2 : (q ++ 46 :: t) ++ b' = q ++ 46 :: (t ++ b') := by simp
    rw [e1, e2]
    rw [e1] at ha
    subst hql
    refine ⟨by simp, ?_, ?_, ?_, fun _ => ?_⟩
    · exact List.length_pos_iff.2 (dotted_ne (dotted_split.1 ha).1)
    · rw [List.take_left]; exact Or.inr ⟨_, rfl⟩
    · rw [List.take_left]; exact Or.inr ⟨_, rfl⟩
    · have d1 : ∀ z : Str, (q ++ 46 :: (t ++ z)).drop (q.length + 1) = t ++ z := by
        intro z
        rw [show q ++ 46 :: (t ++ z) = (q ++ [46]) ++ (t ++ z) by simp]
        exact List.drop_left' (by simp)
      rw [d1, d1, fn_append htd, fn_append htd]
      intro e
      exact key (List.append_cancel_left e)

end Go.Proofs.Qxb6600888a
