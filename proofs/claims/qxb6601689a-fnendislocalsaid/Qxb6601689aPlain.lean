/- PLAIN LAWS on bencoded texts: a text is a function from places to bytes and a length. No Go in sight. -/
namespace Go.Proofs.Qxb6601689a.Base
set_option linter.unusedVariables false
set_option linter.unusedSimpArgs false

/-- The number that the m digits from place i on write. -/
def num (g : Nat → Int) (i : Nat) : Nat → Nat
  | 0 => 0
  | m + 1 => num g i m * 10 + (g (i + m) - 48).toNat

theorem num_mono (g : Nat → Int) (i a b : Nat) (h : a ≤ b) : num g i a ≤ num g i b := by
  induction b with
  | zero => have : a = 0 := by omega
            subst this; exact Nat.le_refl _
  | succ b ih =>
    by_cases e : a = b + 1
    · subst e; exact Nat.le_refl _
    · have := ih (by omega)
      simp only [num]
      omega

/-- A byte string begins at i and ends ahead of j. -/
def StrLeaf (g : Nat → Int) (n i j : Nat) : Prop :=
  ∃ c, i < c ∧ (∀ k, i ≤ k → k < c → 48 ≤ g k ∧ g k ≤ 57) ∧ g c = 58 ∧ j = c + 1 + num g i (c - i) ∧ j ≤ n

/-- An integer. -/
def IntLeaf (g : Nat → Int) (n i j : Nat) : Prop :=
  g i = 105 ∧ ∃ e, i < e ∧ (∀ k, i < k → k < e → g k ≠ 101) ∧ g e = 101 ∧ j = e + 1 ∧ j ≤ n

/-- Values one behind the other, from i to j. -/
def VC (V : Nat → Nat → Prop) : List Nat → Nat → Nat → Prop
  | [], i, j => i = j
  | p :: ps, i, j => V i p ∧ VC V ps p j

/-- A whole value begins at i and ends ahead of j (f: how deep it may nest). -/
def ValF (g : Nat → Int) (n : Nat) : Nat → Nat → Nat → Prop
  | 0, _, _ => False
  | f + 1, i, j => StrLeaf g n i j ∨ IntLeaf g n i j ∨ ((g i = 108 ∨ g i = 100) ∧ ∃ ps k, VC (ValF g n f) ps (i + 1) k ∧ g k = 101 ∧ j = k + 1 ∧ j ≤ n)

theorem vc_mono {V V' : Nat → Nat → Prop} (h : ∀ i j, V i j → V' i j) (ps : List Nat) : ∀ i j, VC V ps i j → VC V' ps i j := by
  induction ps with
  | nil => intro i j q; exact q
  | cons p ps ih => intro i j q; exact ⟨h _ _ q.1, ih _ _ q.2⟩

theorem vc_snoc {V : Nat → Nat → Prop} (ps : List Nat) : ∀ i j k, VC V ps i j → V j k → VC V (ps ++ [k]) i k := by
  induction ps with
  | nil => intro i j k q v; have q : i = j := q; subst q; exact ⟨v, rfl⟩
  | cons p ps ih => intro i j k q v; exact ⟨q.1, ih _ _ _ q.2 v⟩

theorem valF_succ (g : Nat → Int) (n f : Nat) : ∀ i j, ValF g n f i j → ValF g n (f + 1) i j := by
  induction f with
  | zero => intro i j h; exact h.elim
  | succ f ih =>
    intro i j h
    rcases h with h | h | ⟨h1, ps, k, h2, h3, h4, h5⟩
    · exact .inl h
    · exact .inr (.inl h)
    · exact .inr (.inr ⟨h1, ps, k, vc_mono ih ps _ _ h2, h3, h4, h5⟩)

theorem valF_le (g : Nat → Int) (n f f' : Nat) (h : f ≤ f') : ∀ i j, ValF g n f i j → ValF g n f' i j := by
  induction f' with
  | zero => intro i j q; have : f = 0 := by omega
            subst this; exact q
  | succ f' ih =>
    intro i j q
    by_cases e : f = f' + 1
    · subst e; exact q
    · exact valF_succ g n f' i j (ih (by omega) i j q)

theorem valF_lt (g : Nat → Int) (n f : Nat) : ∀ i j, ValF g n f i j → i < j ∧ j ≤ n := by
  induction f with
  | zero => intro i j h; exact h.elim
  | succ f ih =>
    intro i j h
    rcases h with ⟨c, h1, _, _, h4, h5⟩ | ⟨_, e, h1, _, _, h4, h5⟩ | ⟨h1, ps, k, h2, h3, h4, h5⟩
    · omega
    · omega
    · have : ∀ (ps : List Nat) (a b : Nat), VC (ValF g n f) ps a b → a ≤ b := by
        intro ps
        induction ps with
        | nil => intro a b q; have q : a = b := q; omega
        | cons p ps ihp => intro a b q; have := (ih _ _ q.1).1; have := ihp _ _ q.2; omega
      have := this ps _ _ h2
      omega

theorem vc_le (g : Nat → Int) (n f : Nat) (ps : List Nat) : ∀ i j, VC (ValF g n f) ps i j → i ≤ j := by
  induction ps with
  | nil => intro i j q; have q : i = j := q; omega
  | cons p ps ih => intro i j q; have := (valF_lt g n f _ _ q.1).1; have := ih _ _ q.2; omega

/-- A value does not begin with 'e'. -/
theorem valF_head (g : Nat → Int) (n f i j : Nat) (h : ValF g n f i j) : g i ≠ 101 := by
  cases f with
  | zero => exact h.elim
  | succ f =>
    rcases h with ⟨c, h1, h2, _⟩ | ⟨h1, _⟩ | ⟨h1, _⟩
    · have := h2 i (Nat.le_refl _) h1; omega
    · omega
    · omega

/-- What lies open: d brackets, each with the whole values behind it; the outermost one at 'at'. -/
def Stk (g : Nat → Int) (n : Nat) (a : Nat) : Nat → Nat → Prop
  | 0, i => i = a
  | d + 1, i => ∃ p, Stk g n a d p ∧ (g p = 108 ∨ g p = 100) ∧ ∃ f ps, VC (ValF g n f) ps (p + 1) i

theorem stk_open {g : Nat → Int} {n a d i : Nat} (h : Stk g n a d i) (hi : g i = 108 ∨ g i = 100) : Stk g n a (d + 1) (i + 1) := ⟨i, h, hi, 0, [], rfl⟩

/-- A whole value is read. -/
theorem stk_val {g : Nat → Int} {n a d i j f : Nat} (h : Stk g n a (d + 1) i) (hv : ValF g n f i j) : Stk g n a (d + 1) j := by
  obtain ⟨p, h1, h2, f', ps, h3⟩ := h
  exact ⟨p, h1, h2, max f' f, ps ++ [j], vc_snoc ps _ _ _ (vc_mono (valF_le g n f' _ (Nat.le_max_left _ _)) ps _ _ h3) (valF_le g n f _ (Nat.le_max_right _ _) _ _ hv)⟩

/-- A bracket is closed: a value ends. -/
theorem stk_close {g : Nat → Int} {n a d i : Nat} (h : Stk g n a (d + 1) i) (hi : g i = 101) (hn : i < n) : ∃ p f, Stk g n a d p ∧ ValF g n f p (i + 1) := by
  obtain ⟨p, h1, h2, f, ps, h3⟩ := h
  exact ⟨p, f + 1, h1, .inr (.inr ⟨h2, ps, i, h3, hi, rfl, by omega⟩)⟩

/-- .. inside another. -/
theorem stk_close_in {g : Nat → Int} {n a d i : Nat} (h : Stk g n a (d + 2) i) (hi : g i = 101) (hn : i < n) : Stk g n a (d + 1) (i + 1) := by
  obtain ⟨p, f, h1, h2⟩ := stk_close h hi hn
  exact stk_val h1 h2

/-- The value cut out alone. -/
theorem valF_cut (g g' : Nat → Int) (n a b : Nat) (hg : ∀ k, k < b - a → g' k = g (a + k)) (f : Nat) : ∀ i j, a ≤ i → j ≤ b → ValF g n f i j → ValF g' (b - a) f (i - a) (j - a) := by
  induction f with
  | zero => intro i j _ _ h; exact h.elim
  | succ f ih =>
    intro i j ha hb h
    have hij := valF_lt g n (f + 1) i j h
    have e : ∀ k, a ≤ k → k < b → g' (k - a) = g k := fun k h1 h2 => by rw [hg (k - a) (by omega)]; congr 1; omega
    rcases h with ⟨c, h1, h2, h3, h4, h5⟩ | ⟨h0, c, h1, h2, h3, h4, h5⟩ | ⟨h1, ps, k, h2, h3, h4, h5⟩
    · have hn : ∀ m, m ≤ c - i → num g' (i - a) m = num g i m := by
        intro m
        induction m with
        | zero => intro _; rfl
        | succ m ihm =>
          intro hm
          simp only [num]
          rw [ihm (by omega), show i - a + m = (i + m) - a by omega, e (i + m) (by omega) (by omega)]
      refine .inl ⟨c - a, by omega, fun k k1 k2 => ?_, by rw [e c (by omega) (by omega)]; exact h3, ?_, by omega⟩
      · have := h2 (k + a) (by omega) (by omega)
        have h' := e (k + a) (by omega) (by omega)
        rw [show k + a - a = k by omega] at h'
        rw [h']; exact this
      · rw [show c - a - (i - a) = c - i by omega, hn (c - i) (Nat.le_refl _)]; omega
    · refine .inr (.inl ⟨by rw [e i (by omega) (by omega)]; exact h0, c - a, by omega, fun k k1 k2 => ?_, by rw [e c (by omega) (by omega)]; exact h3, by omega, by omega⟩)
      have := h2 (k + a) (by omega) (by omega)
      have h' := e (k + a) (by omega) (by omega)
      rw [show k + a - a = k by omega] at h'
      rw [h']; exact this
    · have hk := vc_le g n f ps _ _ h2
      refine .inr (.inr ⟨by rw [e i (by omega) (by omega)]; exact h1, ps.map (· - a), k - a, ?_, by rw [e k (by omega) (by omega)]; exact h3, by omega, by omega⟩)
      have : ∀ (ps : List Nat) (x y : Nat), a ≤ x → y ≤ b → VC (ValF g n f) ps x y → VC (ValF g' (b - a) f) (ps.map (· - a)) (x - a) (y - a) := by
        intro ps
        induction ps with
        | nil => intro x y _ _ q; have q : x = y := q; subst q; rfl
        | cons p ps ihp =>
          intro x y hx hy q
          have q1 := vc_le g n f ps _ _ q.2
          have q2 := (valF_lt g n f _ _ q.1).1
          exact ⟨ih x p hx (by omega) q.1, ihp p y (by omega) hy q.2⟩
      have h6 := this ps (i + 1) k (by omega) (by omega) h2
      rw [show i + 1 - a = i - a + 1 by omega] at h6
      exact h6
end Go.Proofs.Qxb6601689a.Base
