/- PLAIN LAWS: no Go in sight. -/
namespace Go.Proofs.Qxb6600588a.Base
set_option linter.unusedVariables false
set_option linter.unusedSimpArgs false

/-- A string's inner bytes: no bare quote; each backslash takes the byte behind it. -/
def okBody : List Int → Bool
  | [] => true
  | [x] => x != 34 && x != 92
  | x :: y :: l => if x == 92 then okBody l else x != 34 && okBody (y :: l)

theorem okBody_esc (y : Int) (l : List Int) : okBody (92 :: y :: l) = okBody l := by simp [okBody]
theorem okBody_plain (x : Int) (l : List Int) (h1 : x ≠ 34) (h2 : x ≠ 92) : okBody (x :: l) = okBody l := by
  cases l with
  | nil => simp [okBody, h1, h2]
  | cons y l => simp [okBody, h1, h2]

theorem okBody_cons (x : Int) (l : List Int) (h : okBody (x :: l) = true) : (x = 92 ∧ ∃ y t, l = y :: t ∧ okBody t = true) ∨ (x ≠ 92 ∧ x ≠ 34 ∧ okBody l = true) := by
  cases l with
  | nil => right; simp [okBody] at h; exact ⟨h.2, h.1, by simp [okBody]⟩
  | cons y t =>
    by_cases hx : x = 92
    · left; subst hx; rw [okBody_esc] at h; exact ⟨rfl, y, t, rfl, h⟩
    · right; simp [okBody, hx] at h; exact ⟨hx, h.1, h.2⟩

theorem okBody_append_n (n : Nat) : ∀ a b : List Int, a.length ≤ n → okBody a = true → okBody b = true → okBody (a ++ b) = true := by
  induction n with
  | zero => intro a b hn ha hb; have : a = [] := List.eq_nil_of_length_eq_zero (by omega); subst this; exact hb
  | succ n ih =>
    intro a b hn ha hb
    cases a with
    | nil => exact hb
    | cons x l =>
      rcases okBody_cons x l ha with ⟨rfl, y, t, rfl, ht⟩ | ⟨h1, h2, hl⟩
      · simp only [List.cons_append]
        rw [okBody_esc]
        exact ih t b (by simp at hn; omega) ht hb
      · simp only [List.cons_append]
        rw [okBody_plain x _ h2 h1]
        exact ih l b (by simp at hn; omega) hl hb

theorem okBody_append (a b : List Int) (ha : okBody a = true) (hb : okBody b = true) : okBody (a ++ b) = true := okBody_append_n a.length a b (Nat.le_refl _) ha hb

/-- A text in tokens: a string (its inner bytes) or one byte. -/
def flat : List (List Int ⊕ Int) → List Int
  | [] => []
  | .inl b :: ts => 34 :: b ++ 34 :: flat ts
  | .inr x :: ts => x :: flat ts

/-- The depth behind the tokens, where no closing bracket brings it to 0. -/
def run : Nat → List (List Int ⊕ Int) → Option Nat
  | d, [] => some d
  | d, .inl b :: ts => if okBody b = true then run d ts else none
  | d, .inr x :: ts => if x = 34 then none else if x = 123 ∨ x = 91 then run (d + 1) ts else if x = 125 ∨ x = 93 then (if d ≤ 1 then none else run (d - 1) ts) else run d ts

theorem flat_append (a b : List (List Int ⊕ Int)) : flat (a ++ b) = flat a ++ flat b := by
  induction a with
  | nil => rfl
  | cons t ts ih => cases t <;> simp [flat, ih]

theorem run_append (a b : List (List Int ⊕ Int)) (d d' : Nat) (h : run d a = some d') : run d (a ++ b) = run d' b := by
  induction a generalizing d with
  | nil => simp [run] at h; subst h; rfl
  | cons t ts ih =>
    cases t with
    | inl b =>
      by_cases hb : okBody b = true
      · simp only [run, List.cons_append, if_pos hb] at h ⊢; exact ih d h
      · simp only [run, if_neg hb] at h; cases h
    | inr x =>
      simp only [run, List.cons_append] at h ⊢
      by_cases h1 : x = 34
      · rw [if_pos h1] at h; cases h
      · rw [if_neg h1] at h ⊢
        by_cases h2 : x = 123 ∨ x = 91
        · rw [if_pos h2] at h ⊢; exact ih _ h
        · rw [if_neg h2] at h ⊢
          by_cases h3 : x = 125 ∨ x = 93
          · rw [if_pos h3] at h ⊢
            by_cases h4 : d ≤ 1
            · rw [if_pos h4] at h; cases h
            · rw [if_neg h4] at h ⊢; exact ih _ h
          · rw [if_neg h3] at h ⊢; exact ih _ h

/-- One step of 'run', read off what it came to. -/
theorem run_inl (d : Nat) (b : List Int) (ts : List (List Int ⊕ Int)) (e : Nat) (h : run d (.inl b :: ts) = some e) : okBody b = true ∧ run d ts = some e := by
  by_cases hb : okBody b = true
  · simp only [run, if_pos hb] at h; exact ⟨hb, h⟩
  · simp only [run, if_neg hb] at h; cases h

theorem run_inr (d : Nat) (x : Int) (ts : List (List Int ⊕ Int)) (e : Nat) (h : run d (.inr x :: ts) = some e) :
    x ≠ 34 ∧ (((x = 123 ∨ x = 91) ∧ run (d + 1) ts = some e) ∨ ((x = 125 ∨ x = 93) ∧ 2 ≤ d ∧ run (d - 1) ts = some e) ∨ (x ≠ 123 ∧ x ≠ 91 ∧ x ≠ 125 ∧ x ≠ 93 ∧ run d ts = some e)) := by
  simp only [run] at h
  by_cases h1 : x = 34
  · rw [if_pos h1] at h; cases h
  · rw [if_neg h1] at h
    refine ⟨h1, ?_⟩
    by_cases h2 : x = 123 ∨ x = 91
    · rw [if_pos h2] at h; exact .inl ⟨h2, h⟩
    · rw [if_neg h2] at h
      by_cases h3 : x = 125 ∨ x = 93
      · rw [if_pos h3] at h
        by_cases h4 : d ≤ 1
        · rw [if_pos h4] at h; cases h
        · rw [if_neg h4] at h; exact .inr (.inl ⟨h3, by omega, h⟩)
      · rw [if_neg h3] at h; exact .inr (.inr ⟨by omega, by omega, by omega, by omega, h⟩)

theorem drop_cons {xs : List Int} {k : Nat} {x : Int} {l : List Int} (h : xs.drop k = x :: l) : ∃ hk : k < xs.length, xs[k] = x ∧ xs.drop (k + 1) = l := by
  have hk : k < xs.length := by
    rcases Nat.lt_or_ge k xs.length with h' | h'
    · exact h'
    · rw [List.drop_eq_nil_of_le h'] at h; cases h
  rw [List.drop_eq_getElem_cons hk] at h
  injection h with h1 h2
  exact ⟨hk, h1, h2⟩
end Go.Proofs.Qxb6600588a.Base
