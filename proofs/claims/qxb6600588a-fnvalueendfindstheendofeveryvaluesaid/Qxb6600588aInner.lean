import Derived.Test.Qxb6600588aScalar
/- PLAIN LAWS on the document's text: what is written inside a value. -/
namespace Go.Proofs.Qxb6600588a.Base
set_option linter.unusedVariables false
set_option linter.unusedSimpArgs false

/-- Each recorded pair is a value of the text T. -/
def Recs (T S E : List Int) : Prop := ∀ (k : Nat) (s e : Int), S[k]? = some s → E[k]? = some e → Good T s e

theorem recs_nil (T : List Int) : Recs T [] [] := fun k s e h _ => by simp at h

theorem recs_append {T S E S' E' : List Int} (hl : S.length = E.length) (h : Recs T S E) (h' : Recs T S' E') : Recs T (S ++ S') (E ++ E') := by
  intro k s e hs he
  by_cases hk : k < S.length
  · rw [List.getElem?_append_left hk] at hs
    rw [List.getElem?_append_left (by omega)] at he
    exact h k s e hs he
  · rw [List.getElem?_append_right (by omega)] at hs
    rw [List.getElem?_append_right (by omega), ← hl] at he
    exact h' _ s e hs he

theorem recs_one {T : List Int} {s e : Int} (h : Good T s e) : Recs T [s] [e] := by
  intro k s' e' hs he
  cases k with
  | zero => simp at hs he; subst hs he; exact h
  | succ k => simp at hs

/-- Balanced tokens. -/
def Bal (ts : List (List Int ⊕ Int)) : Prop := ∀ d, 1 ≤ d → run d ts = some d

theorem bal_nil : Bal [] := fun d _ => rfl
theorem bal_append {a b : List (List Int ⊕ Int)} (ha : Bal a) (hb : Bal b) : Bal (a ++ b) := fun d hd => by rw [run_append a b d d (ha d hd)]; exact hb d hd
theorem bal_str {body : List Int} (h : okBody body = true) : Bal [.inl body] := fun d _ => by simp [run, h]
/-- A byte that is no quote and no bracket. -/
def neutral (c : Int) : Prop := c ≠ 34 ∧ c ≠ 123 ∧ c ≠ 91 ∧ c ≠ 125 ∧ c ≠ 93
theorem bal_char {c : Int} (h : neutral c) : Bal [.inr c] := fun d _ => by
  obtain ⟨h1, h2, h3, h4, h5⟩ := h
  simp [run, h1, h2, h3, h4, h5]
theorem plain_neutral {c : Int} (h : plain c = true) : neutral c := by
  unfold plain dl at h
  simp only [Bool.and_eq_true, Bool.not_eq_true', Bool.or_eq_false_iff, beq_eq_false_iff_ne, bne_iff_ne] at h
  refine ⟨?_, ?_, ?_, ?_, ?_⟩ <;> omega
theorem bal_plain (l : List Int) (h : ∀ x ∈ l, plain x = true) : Bal (l.map .inr) ∧ flat (l.map .inr) = l := by
  induction l with
  | nil => exact ⟨bal_nil, rfl⟩
  | cons x l ih =>
    obtain ⟨i1, i2⟩ := ih (fun y hy => h y (by simp [hy]))
    refine ⟨?_, by simp [flat, i2]⟩
    show Bal ([.inr x] ++ l.map .inr)
    exact bal_append (bal_char (plain_neutral (h x (by simp)))) i1

/-- What has been written behind T0, under what P asks of the text to come. -/
structure Inner (T0 : List Int) (P : List Int → Prop) (U : List Int) (us : List (List Int ⊕ Int)) (S E : List Int) : Prop where
  fl : U = flat us
  bal : Bal us
  len : S.length = E.length
  recs : ∀ rest, P rest → Recs (T0 ++ (U ++ rest)) S E

/-- Nothing is asked. -/
def AnyT (_ : List Int) : Prop := True

theorem inner_nil (T0 : List Int) : Inner T0 AnyT [] [] [] [] := ⟨rfl, bal_nil, rfl, fun _ _ => recs_nil _⟩

theorem inner_weak {T0 U S E : List Int} {us : List (List Int ⊕ Int)} (h : Inner T0 AnyT U us S E) : Inner T0 Dl U us S E := ⟨h.fl, h.bal, h.len, fun r _ => h.recs r trivial⟩

theorem inner_char {T0 U S E : List Int} {us : List (List Int ⊕ Int)} (h : Inner T0 AnyT U us S E) {c : Int} (hc : neutral c) : Inner T0 AnyT (U ++ [c]) (us ++ [.inr c]) S E :=
  ⟨by rw [flat_append, h.fl]; rfl, bal_append h.bal (bal_char hc), h.len, fun r _ => by have := h.recs (c :: r) trivial; simpa using this⟩

theorem inner_delim {T0 U S E : List Int} {us : List (List Int ⊕ Int)} (h : Inner T0 Dl U us S E) {c : Int} (hc : neutral c) (hd : dl c = true) : Inner T0 AnyT (U ++ [c]) (us ++ [.inr c]) S E :=
  ⟨by rw [flat_append, h.fl]; rfl, bal_append h.bal (bal_char hc), h.len, fun r _ => by have := h.recs (c :: r) (.inr ⟨c, r, rfl, hd⟩); simpa using this⟩

theorem good_str (T body rest : List Int) (h : okBody body = true) (L : Nat) (hL : T.length = L) : Good (T ++ (34 :: (body ++ [34]) ++ rest)) (L : Int) ((L : Int) + ((body.length : Int) + 2)) := by
  subst hL
  refine ⟨T.length, rfl, .inl ⟨body, rest, ?_, h, by omega⟩⟩
  rw [List.drop_left]
  simp

theorem good_scalar (T body rest : List Int) (hne : body ≠ []) (h : ∀ x ∈ body, plain x = true) (hr : Dl rest) (L : Nat) (hL : T.length = L) : Good (T ++ (body ++ rest)) (L : Int) ((L : Int) + (body.length : Int)) := by
  subst hL
  refine ⟨T.length, rfl, .inr (.inr ⟨body, rest, ?_, hne, h, hr, by omega⟩)⟩
  rw [List.drop_left]

theorem inner_key {T0 U S E : List Int} {us : List (List Int ⊕ Int)} (h : Inner T0 AnyT U us S E) {body : List Int} (hb : okBody body = true) (L : Nat) (hL : (T0 ++ U).length = L) :
    Inner T0 AnyT (U ++ (34 :: (body ++ [34]))) (us ++ [.inl body]) (S ++ [(L : Int)]) (E ++ [(L : Int) + ((body.length : Int) + 2)]) := by
  refine ⟨by rw [flat_append, ← h.fl]; simp [flat], bal_append h.bal (bal_str hb), by simp [h.len], fun r _ => ?_⟩
  refine recs_append h.len ?_ (recs_one ?_)
  · have := h.recs (34 :: (body ++ [34]) ++ r) trivial
    simpa using this
  · have := good_str (T0 ++ U) body r hb L hL
    simpa using this

theorem inner_val {T0 U S E V S' E' : List Int} {us ts : List (List Int ⊕ Int)} (h : Inner T0 AnyT U us S E) (hv : Inner (T0 ++ U) Dl V ts S' E') : Inner T0 Dl (U ++ V) (us ++ ts) (S ++ S') (E ++ E') := by
  refine ⟨by rw [flat_append, ← h.fl, ← hv.fl], bal_append h.bal hv.bal, by simp [h.len, hv.len], fun r hr => ?_⟩
  refine recs_append h.len ?_ ?_
  · have := h.recs (V ++ r) trivial
    simpa using this
  · have := hv.recs r hr
    simpa using this

/-- A container, closed. -/
theorem inner_box {T0 U S E : List Int} {us : List (List Int ⊕ Int)} {op cl : Int} (hop : op = 123 ∨ op = 91) (hcl : cl = 125 ∨ cl = 93) (h : Inner (T0 ++ [op]) Dl U us S E) (L : Nat) (hL : T0.length = L) :
    Inner T0 AnyT (op :: (U ++ [cl])) (.inr op :: (us ++ [.inr cl])) ((L : Int) :: S) (((L : Int) + ((U.length : Int) + 2)) :: E) := by
  have hdl : dl cl = true := by rcases hcl with rfl | rfl <;> rfl
  refine ⟨by rw [h.fl]; simp [flat, flat_append], ?_, by simp [h.len], fun r _ => ?_⟩
  · intro d hd
    have hb := h.bal (d + 1) (by omega)
    have h1 : run d (.inr op :: (us ++ [.inr cl])) = run (d + 1) (us ++ [.inr cl]) := by rcases hop with rfl | rfl <;> simp [run]
    rw [h1, run_append _ _ _ _ hb]
    have : ¬ d + 1 ≤ 1 := by omega
    rcases hcl with rfl | rfl <;> simp [run] <;> omega
  · have e1 : (L : Int) :: S = [(L : Int)] ++ S := rfl
    have e2 : ((L : Int) + ((U.length : Int) + 2)) :: E = [(L : Int) + ((U.length : Int) + 2)] ++ E := rfl
    rw [e1, e2]
    refine recs_append rfl (recs_one ?_) ?_
    · subst hL
      refine ⟨T0.length, rfl, .inr (.inl ⟨op, cl, us, r, ?_, hop, hcl, ?_, ?_⟩)⟩
      · rw [List.drop_left, h.fl]; simp [flat]
      · have h1 : run 0 (.inr op :: us) = run 1 us := by rcases hop with rfl | rfl <;> simp [run]
        rw [h1]; exact h.bal 1 (by omega)
      · rw [h.fl]; simp [flat]; omega
    · have := h.recs (cl :: r) (.inr ⟨cl, r, rfl, hdl⟩)
      simpa using this

theorem inner_scalar {T0 body : List Int} (hne : body ≠ []) (h : ∀ x ∈ body, plain x = true) (L : Nat) (hL : T0.length = L) : Inner T0 Dl body (body.map .inr) [(L : Int)] [(L : Int) + (body.length : Int)] :=
  ⟨(bal_plain body h).2.symm, (bal_plain body h).1, rfl, fun r hr => recs_one (good_scalar T0 body r hne h hr L hL)⟩

theorem inner_str {T0 body : List Int} (h : okBody body = true) (L : Nat) (hL : T0.length = L) : Inner T0 Dl (34 :: (body ++ [34])) [.inl body] [(L : Int)] [(L : Int) + ((body.length : Int) + 2)] :=
  ⟨by simp [flat], bal_str h, rfl, fun r _ => recs_one (good_str T0 body r h L hL)⟩
end Go.Proofs.Qxb6600588a.Base
