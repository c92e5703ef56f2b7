import Derived.Test.Qxb6600588aNum
namespace Go.Proofs.Qxb6600588a.Base
open Go.RowKit
set_option linter.unusedVariables false
set_option linter.unusedSimpArgs false

/-- Inside a container: T, S', E' are what the document holds now; so, sc: what has been written since the last value. -/
structure Mid (w0 w : World) (D n : Nat) (out starts ends : List Int) (pos0 si0 ni0 wi0 : Nat) (op : Int) (P : List Int → Prop) (T S' E' : List Int) (pos si ni wi so sc : Nat) : Prop where
  doc : DocX w D T S' E' pos si ni wi
  below : Below D w0 w
  body : ∃ U us S E, T = out ++ op :: U ∧ S' = starts ++ (out.length : Int) :: S ∧ E' = ends ++ (out.length : Int) :: E ∧ Inner (out ++ [op]) P U us S E ∧
    U.length ≤ 1000000 * (pos - (pos0 + 1)) + so ∧ S.length ≤ 20 * (pos - (pos0 + 1)) + sc
  lo : pos0 < pos
  hi : pos ≤ n
  si' : si ≤ si0 + 20 * (pos - (pos0 + 1)) + sc
  ni' : ni ≤ ni0 + 20 * (pos - (pos0 + 1)) + sc
  wi' : wi ≤ wi0 + 20 * (pos - (pos0 + 1)) + sc

section
variable {w0 w w' : World} {D n : Nat} {out starts ends : List Int} {pos0 si0 ni0 wi0 : Nat} {op : Int} {P : List Int → Prop} {T S' E' : List Int} {pos si ni wi so sc : Nat}

theorem mid_start (h : DocX w D (out ++ [op]) (starts ++ [(out.length : Int)]) (ends ++ [(out.length : Int)]) (pos0 + 1) si ni wi) (hB : Below D w0 w) (hp : pos0 < n) :
    Mid w0 w D n out starts ends pos0 si ni wi op AnyT (out ++ [op]) (starts ++ [(out.length : Int)]) (ends ++ [(out.length : Int)]) (pos0 + 1) si ni wi 0 0 :=
  ⟨h, hB, ⟨[], [], [], [], rfl, rfl, rfl, inner_nil _, by simp, by simp⟩, by omega, by omega, by omega, by omega, by omega⟩

theorem Mid.weak (h : Mid w0 w D n out starts ends pos0 si0 ni0 wi0 op AnyT T S' E' pos si ni wi so sc) : Mid w0 w D n out starts ends pos0 si0 ni0 wi0 op Dl T S' E' pos si ni wi so sc := by
  obtain ⟨h1, h2, ⟨U, us, S, E, e1, e2, e3, e4, e5, e6⟩, h4, h5, h6, h7, h8⟩ := h
  exact ⟨h1, h2, ⟨U, us, S, E, e1, e2, e3, inner_weak e4, e5, e6⟩, h4, h5, h6, h7, h8⟩

/-- A delimiter is written. -/
theorem Mid.delim (h : Mid w0 w D n out starts ends pos0 si0 ni0 wi0 op Dl T S' E' pos si ni wi so sc) {c : Int} (hc : neutral c) (hd : dl c = true) {wi2 : Nat} (hX : DocX w' D (T ++ [c]) S' E' pos si ni wi2) (hB : Below D w w') (hw : wi2 ≤ wi + 1) :
    Mid w0 w' D n out starts ends pos0 si0 ni0 wi0 op AnyT (T ++ [c]) S' E' pos si ni wi2 (so + 1) (sc + 1) := by
  obtain ⟨h1, h2, ⟨U, us, S, E, e1, e2, e3, e4, e5, e6⟩, h4, h5, h6, h7, h8⟩ := h
  exact ⟨hX, h2.trans hB, ⟨U ++ [c], _, S, E, by rw [e1]; simp, e2, e3, inner_delim e4 hc hd, by simp; omega, by omega⟩, h4, h5, by omega, by omega, by omega⟩

/-- Another byte, where nothing is pending. -/
theorem Mid.char (h : Mid w0 w D n out starts ends pos0 si0 ni0 wi0 op AnyT T S' E' pos si ni wi so sc) {c : Int} (hc : neutral c) {wi2 : Nat} (hX : DocX w' D (T ++ [c]) S' E' pos si ni wi2) (hB : Below D w w') (hw : wi2 ≤ wi + 1) :
    Mid w0 w' D n out starts ends pos0 si0 ni0 wi0 op AnyT (T ++ [c]) S' E' pos si ni wi2 (so + 1) (sc + 1) := by
  obtain ⟨h1, h2, ⟨U, us, S, E, e1, e2, e3, e4, e5, e6⟩, h4, h5, h6, h7, h8⟩ := h
  exact ⟨hX, h2.trans hB, ⟨U ++ [c], _, S, E, by rw [e1]; simp, e2, e3, inner_char e4 hc, by simp; omega, by omega⟩, h4, h5, by omega, by omega, by omega⟩

/-- A key. -/
theorem Mid.key (h : Mid w0 w D n out starts ends pos0 si0 ni0 wi0 op AnyT T S' E' pos si ni wi so sc) {body : List Int} (hb : okBody body = true) (hl : body.length ≤ 6 * 65536)
    (hX : DocX w' D (T ++ 34 :: (body ++ [34])) (S' ++ [(T.length : Int)]) (E' ++ [(T.length : Int) + ((body.length : Int) + 2)]) pos (si + 1) ni wi) (hB : Below D w w') :
    Mid w0 w' D n out starts ends pos0 si0 ni0 wi0 op AnyT (T ++ 34 :: (body ++ [34])) (S' ++ [(T.length : Int)]) (E' ++ [(T.length : Int) + ((body.length : Int) + 2)]) pos (si + 1) ni wi (so + 393218) (sc + 1) := by
  obtain ⟨h1, h2, ⟨U, us, S, E, e1, e2, e3, e4, e5, e6⟩, h4, h5, h6, h7, h8⟩ := h
  refine ⟨hX, h2.trans hB, ⟨U ++ 34 :: (body ++ [34]), _, S ++ [(T.length : Int)], E ++ [(T.length : Int) + ((body.length : Int) + 2)], by rw [e1]; simp, by rw [e2]; simp, by rw [e3]; simp, inner_key e4 hb T.length (by rw [e1]; simp), by simp; omega, by simp; omega⟩, h4, h5, by omega, by omega, by omega⟩

/-- A value. -/
theorem Mid.val (h : Mid w0 w D n out starts ends pos0 si0 ni0 wi0 op AnyT T S' E' pos si ni wi so sc) (hso : so ≤ 399990) (hsc : sc ≤ 9) (hv : ValPost w w' D n T S' E' pos si ni wi) :
    ∃ T2 S2 E2 pos2 si2 ni2 wi2, Mid w0 w' D n out starts ends pos0 si0 ni0 wi0 op Dl T2 S2 E2 pos2 si2 ni2 wi2 0 0 ∧
      Mid w0 w' D n out starts ends pos0 si0 ni0 wi0 op Dl T2 S2 E2 pos2 si2 ni2 wi2 0 0 ∧ pos < pos2 ∧ (∀ (w2 : World) (c : Int) (wi3 : Nat), neutral c → dl c = true → DocX w2 D (T2 ++ [c]) S2 E2 pos2 si2 ni2 wi3 → Below D w' w2 → wi3 ≤ wi2 + 1 → Mid w0 w2 D n out starts ends pos0 si0 ni0 wi0 op Dl (T2 ++ [c]) S2 E2 pos2 si2 ni2 wi3 0 0) := by
  obtain ⟨h1, h2, ⟨U, us, S, E, e1, e2, e3, e4, e5, e6⟩, h4, h5, h6, h7, h8⟩ := h
  obtain ⟨V, ts, SV, EV, pos2, si2, ni2, wi2, hX, hB, hI, hp1, hp2, hVl, hSl, hsi, hni, hwi⟩ := hv
  have hT : (out ++ [op]) ++ U = T := by rw [e1]; simp
  rw [← hT] at hI
  have e4' := inner_val e4 hI
  have hm : Mid w0 w' D n out starts ends pos0 si0 ni0 wi0 op Dl (T ++ V) (S' ++ SV) (E' ++ EV) pos2 si2 ni2 wi2 0 0 :=
    ⟨hX, h2.trans hB, ⟨U ++ V, _, S ++ SV, E ++ EV, by rw [e1]; simp, by rw [e2]; simp, by rw [e3]; simp, e4', by simp; omega, by simp; omega⟩, by omega, hp2, by omega, by omega, by omega⟩
  refine ⟨T ++ V, S' ++ SV, E' ++ EV, pos2, si2, ni2, wi2, hm, hm, hp1, ?_⟩
  intro w2 c wi3 hc hd hX2 hB2 hw3
  exact ⟨hX2, (h2.trans hB).trans hB2, ⟨(U ++ V) ++ [c], _, S ++ SV, E ++ EV, by rw [e1]; simp, by rw [e2]; simp, by rw [e3]; simp, inner_weak (inner_delim e4' hc hd), by simp; omega, by simp; omega⟩, by omega, hp2, by omega, by omega, by omega⟩

/-- The numbers that the walk asks for. -/
theorem Mid.fit (h : Mid w0 w D n out starts ends pos0 si0 ni0 wi0 op P T S' E' pos si ni wi so sc) (hso : so ≤ 400000) (hsc : sc ≤ 10) (hf : Fit n out.length starts.length pos0 si0 ni0 wi0) :
    Fit n T.length S'.length pos si ni wi := by
  obtain ⟨h1, h2, ⟨U, us, S, E, e1, e2, e3, e4, e5, e6⟩, h4, h5, h6, h7, h8⟩ := h
  obtain ⟨f1, f2, f3, f4, f5⟩ := hf
  have l1 : T.length = out.length + (U.length + 1) := by rw [e1]; simp
  have l2 : S'.length = starts.length + (S.length + 1) := by rw [e2]; simp
  exact ⟨by omega, by omega, by omega, by omega, by omega⟩

/-- The container is closed: what zzValue leaves. -/
theorem Mid.close (h : Mid w0 w D n out starts ends pos0 si0 ni0 wi0 op Dl T S' E' pos si ni wi so sc) (hop : op = 123 ∨ op = 91) {cl : Int} (hcl : cl = 125 ∨ cl = 93) (hso : so ≤ 10) (hsc : sc ≤ 9)
    {E1 : List Int} (hE : E' = ends ++ (out.length : Int) :: E1) (hX : DocX w' D (T ++ [cl]) S' (ends ++ (((T.length : Nat) : Int) + 1) :: E1) pos si ni wi) (hB : Below D w w') : ValPost w0 w' D n out starts ends pos0 si0 ni0 wi0 := by
  obtain ⟨h1, h2, ⟨U, us, S, E, e1, e2, e3, e4, e5, e6⟩, h4, h5, h6, h7, h8⟩ := h
  have hEE : E = E1 := by rw [e3] at hE; simpa using hE
  subst hEE
  have l1 : T.length = out.length + (U.length + 1) := by rw [e1]; simp
  have hval : ((T.length : Nat) : Int) + 1 = (out.length : Int) + ((U.length : Int) + 2) := by omega
  rw [hval, e1, e2] at hX
  refine ⟨op :: (U ++ [cl]), _, (out.length : Int) :: S, ((out.length : Int) + ((U.length : Int) + 2)) :: E, pos, si, ni, wi, by simpa using hX, h2.trans hB, inner_weak (inner_box hop hcl e4 out.length rfl), h4, h5, by simp; omega, by simp; omega, by omega, by omega, by omega⟩

theorem Mid.tailE (h : Mid w0 w D n out starts ends pos0 si0 ni0 wi0 op P T S' E' pos si ni wi so sc) : ∃ E1, E' = ends ++ (out.length : Int) :: E1 := by
  obtain ⟨h1, h2, ⟨U, us, S, E, e1, e2, e3, e4, e5, e6⟩, h4, h5, h6, h7, h8⟩ := h
  exact ⟨E, e3⟩
end

theorem wsb_neutral {x : Int} (h : wsb x) : neutral x ∧ dl x = true := by
  rcases h with rfl | rfl | rfl | rfl <;> refine ⟨⟨?_, ?_, ?_, ?_, ?_⟩, rfl⟩ <;> omega

theorem neutral_comma : neutral 44 := by refine ⟨?_, ?_, ?_, ?_, ?_⟩ <;> omega
theorem neutral_colon : neutral 58 := by refine ⟨?_, ?_, ?_, ?_, ?_⟩ <;> omega
end Go.Proofs.Qxb6600588a.Base
