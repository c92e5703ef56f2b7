import Derived.Test.Qxb6600588aBoxAn
import Derived.Test.Qxb6600588aBoxAs
import Derived.Test.Qxb6600588aBoxOn
import Derived.Test.Qxb6600588aBoxOs
namespace Go.Proofs.Qxb6600588a.Base
open Go.RowKit
set_option linter.unusedVariables false
set_option linter.unusedSimpArgs false

/-- zzValue, where the shape is not used up. -/
theorem val_any {W : World} {D : Nat} {a : Option Addr} {n : Nat} {xs : List Int} {b : Option Addr} {m : Nat} {ss : List ByteArray} {c : Option Addr} {q : Nat} (hc : Came W D a n xs b m ss c q) (ca cb cc : Nat) :
    ∀ (k : Nat) (w : World) (out starts ends : List Int) (pos si ni wi : Nat), n - pos ≤ k → pos < n → Below D W w → DocX w D out starts ends pos si ni wi → Fit n out.length starts.length pos si ni wi →
      ValSaid W D a n ca b m cb c q cc w out starts ends pos si ni wi := by
  intro k
  induction k with
  | zero => intro w out starts ends pos si ni wi hk hp; omega
  | succ k ih =>
    intro w out starts ends pos si ni wi hk hp hB h hf
    obtain ⟨ad, off, x, ha, had, hcx, hx0, hx1⟩ := hc.byte hB hp
    have ih' : ∀ (w : World) (T S' E' : List Int) (pos2 si ni wi : Nat), pos < pos2 → pos2 < n → Below D W w → DocX w D T S' E' pos2 si ni wi → Fit n T.length S'.length pos2 si ni wi → ValSaid W D a n ca b m cb c q cc w T S' E' pos2 si ni wi :=
      fun w T S' E' pos2 si ni wi h1 h2 h3 h4 h5 => ih w T S' E' pos2 si ni wi (by omega) h2 h3 h4 h5
    have hr : x % 8 = 0 ∨ x % 8 = 1 ∨ x % 8 = 2 ∨ x % 8 = 3 ∨ x % 8 = 4 ∨ x % 8 = 5 ∨ x % 8 = 6 ∨ x % 8 = 7 := by omega
    rcases hr with e | e | e | e | e | e | e | e
    · exact val_str W w D a n ca xs b m cb ss c q cc out starts ends pos si ni wi hc hB h hf hp x hx0 hx1 ad off ha had hcx e
    · by_cases hq : ni < q
      · exact val_num1h W w D a n ca xs b m cb ss c q cc out starts ends pos si ni wi hc hB h hf hp x hx0 hx1 ad off ha had hcx e hq
      · exact val_num1n W w D a n ca xs b m cb ss c q cc out starts ends pos si ni wi hc hB h hf hp x hx0 hx1 ad off ha had hcx e (by omega)
    · exact val_true W w D a n ca xs b m cb ss c q cc out starts ends pos si ni wi hc hB h hf hp x hx0 hx1 ad off ha had hcx e
    · exact val_false W w D a n ca xs b m cb ss c q cc out starts ends pos si ni wi hc hB h hf hp x hx0 hx1 ad off ha had hcx e
    · exact val_null W w D a n ca xs b m cb ss c q cc out starts ends pos si ni wi hc hB h hf hp x hx0 hx1 ad off ha had hcx e
    · cases hsp : (bits BinOp.and IntKind.u8 (x / 32) 1 == 1)
      · exact val_obj_no W w D a n ca xs b m cb ss c q cc out starts ends pos si ni wi hc hB h hf hp x hx0 hx1 ad off ha had hcx e hsp ih'
      · exact val_obj_sp W w D a n ca xs b m cb ss c q cc out starts ends pos si ni wi hc hB h hf hp x hx0 hx1 ad off ha had hcx e hsp ih'
    · cases hsp : (bits BinOp.and IntKind.u8 (x / 32) 1 == 1)
      · exact val_arr_no W w D a n ca xs b m cb ss c q cc out starts ends pos si ni wi hc hB h hf hp x hx0 hx1 ad off ha had hcx e hsp ih'
      · exact val_arr_sp W w D a n ca xs b m cb ss c q cc out starts ends pos si ni wi hc hB h hf hp x hx0 hx1 ad off ha had hcx e hsp ih'
    · by_cases hq : ni < q
      · exact val_num7h W w D a n ca xs b m cb ss c q cc out starts ends pos si ni wi hc hB h hf hp x hx0 hx1 ad off ha had hcx e hq
      · exact val_num7n W w D a n ca xs b m cb ss c q cc out starts ends pos si ni wi hc hB h hf hp x hx0 hx1 ad off ha had hcx e (by omega)

/-- What zzValue leaves, at the root. -/
def RootPost (w w' : World) (D : Nat) (out : List Int) : Prop :=
  ∃ V S E pos' si' ni' wi' ts, DocX w' D (out ++ V) S E pos' si' ni' wi' ∧ Below D w w' ∧ Inner out Dl V ts S E ∧ V.length ≤ 5000000000 ∧ S.length ≤ 90000

set_option maxRecDepth 100000 in
set_option maxHeartbeats 1600000 in
theorem root_any {W : World} {D : Nat} {a : Option Addr} {n : Nat} {xs : List Int} {b : Option Addr} {m : Nat} {ss : List ByteArray} {c : Option Addr} {q : Nat} (hc : Came W D a n xs b m ss c q) (ca cb cc : Nat)
    (w : World) (out : List Int) (hB : Below D W w) (h : DocX w D out [] [] 0 0 0 0) (ho : out.length ≤ 100000) :
    Calls Try.prog 9 #[.pointer (some ⟨D, 0, none⟩), .slice a n ca, .slice b m cb, .slice c q cc] w fun e w' => e = .returned (.tuple #[]) ∧ RootPost w w' D out := by
  have hlim := hc.lim
  by_cases hn : 0 < n
  · refine Calls.mono (val_any hc ca cb cc n w out [] [] 0 0 0 0 (by omega) hn hB h ⟨by omega, by simp; omega, by omega, by omega, by omega⟩) ?_
    rintro e w' ⟨rfl, V, ts, S, E, pos', si', ni', wi', h1, h2, h3, h4, h5, h6, h7, _⟩
    exact ⟨rfl, V, S, E, pos', si', ni', wi', ts, by simpa using h1, h2, h3, by omega, by omega⟩
  · obtain rfl : n = 0 := by omega
    have st := lit_any w D 4 ⟨#[110, 117, 108, 108]⟩ out [] [] 0 0 0 0 (by omega) (by decide) (by decide) h (by simp) (by omega)
    have hS : strInts ⟨#[110, 117, 108, 108]⟩ = [110, 117, 108, 108] := by decide
    have hZ : (⟨#[110, 117, 108, 108]⟩ : ByteArray).size = 4 := rfl
    rw [hS, hZ] at st
    clear hS hZ
    obtain ⟨p, kinds, hd, hnk, hne⟩ := h
    have c4 : w.cell? ⟨D, 4, none⟩ = some (.int .i64 0) := hd.cell 4
    clear hd hc
    go_enter Try.func9, Try.ntmps9
    go_wp2_with fail
    refine st.mono ?_
    rintro e w2 ⟨rfl, hX2, hB2⟩
    go_wp2
    refine bodyPost_ret (results_none rfl _ _ _) rfl ?_
    exact ⟨rfl, _, _, _, _, _, _, _, _, hX2, hB2, inner_scalar (body := [110, 117, 108, 108]) (by simp) (by decide) _ rfl, by simp, by simp⟩
end Go.Proofs.Qxb6600588a.Base
