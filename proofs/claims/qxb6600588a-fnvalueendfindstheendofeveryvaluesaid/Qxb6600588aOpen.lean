import Derived.Test.Qxb6600588aDoc
import Derived.Deep.RegionHeld3
import Derived.Deep.RegionLaw
import Derived.BigRegion
import Derived.Deep.DrawnRows
import Derived.Deep.Cut
import Derived.Deep.CutBlock
import Derived.Deep.CutRange
namespace Go.Proofs.Qxb6600588a.Base
open Go.RowKit
set_option linter.unusedVariables false
set_option linter.unusedSimpArgs false

/-- The document, its four slices somewhere. -/
def DocX (w : World) (D : Nat) (out starts ends : List Int) (pos si ni wi : Nat) : Prop :=
  ∃ p kinds, Doc w D p out starts ends kinds pos si ni wi ∧ p.nk = starts.length ∧ ends.length = starts.length

/-- A field's cell while another row grows. -/
theorem Doc.cellG {w w1 : World} {D : Nat} {p : Ad} {out starts ends kinds : List Int} {pos si ni wi : Nat} (h : Doc w D p out starts ends kinds pos si ni wi) {row row' : Option Nat} (g : Grew w w1 row row') (hne : row ≠ some D) (j : Nat) :
    w1.cell? ⟨D, j, none⟩ = (fields p out.length starts.length ends.length pos si ni wi)[j]? ∧ w1.frozen? ⟨D, j, none⟩ = false := by
  have hD : w1.heap[D]? = some (.cells (fields p out.length starts.length ends.length pos si ni wi) 29 (0, 0)) := by rw [g.by'.block D h.lt (Ne.symm hne)]; exact h.heap
  exact ⟨cell_of_row w1 D j _ 29 (0, 0) hD, frozen_of_row w1 D j _ 29 hD⟩

theorem own_base {w : World} {B e size n cap : Nat} {ao : Option Addr} {xs : List Value} (h : w.ownsRow B e size (.slice ao n cap) n xs) : ∀ k, blk ao = some k → B ≤ k := fun k hk => (h.lt k (by rw [ownBlock_slice]; exact hk)).1

/-- From a world, a block and a draw later, over a row that grew, to a store into the document. -/
theorem below_laid {w w1 : World} {D j : Nat} {o : Obj} {row row' : Option Nat} {v : Value} (hD : D ≤ w.heap.size) (g : Grew (w.alloc o).drew w1 row row') (hr : ∀ k, row = some k → D ≤ k) : Below D w (w1.setCell ⟨D, j, none⟩ v) :=
  ((((Below.refl D w).alloc hD o).drew).trans (g.below (by show D ≤ (w.alloc o).heap.size; simp; omega) hr)).setCell (Nat.le_refl _) _

/-- Behind a block laid and a draw. -/
theorem Doc.laid {w : World} {D : Nat} {p : Ad} {out starts ends kinds : List Int} {pos si ni wi : Nat} (h : Doc w D p out starts ends kinds pos si ni wi) (o : Obj) : Doc (w.alloc o).drew D p out starts ends kinds pos si ni wi :=
  h.grow ((Grew.alloc w _ none).trans (Grew.drew _ _))

set_option maxRecDepth 100000 in
set_option maxHeartbeats 1600000 in
theorem open_any (w : World) (D : Nat) (kind : Int) (out starts ends : List Int) (pos si ni wi : Nat) (hk : 0 ≤ kind ∧ kind < 256) (h : DocX w D out starts ends pos si ni wi) (hn : starts.length ≤ 1000000000) (ho : out.length ≤ 1000000000000) :
    Calls Try.prog 20 #[.pointer (some ⟨D, 0, none⟩), .int .u8 kind] w fun e w' => e = .returned (.int .i64 starts.length) ∧ DocX w' D out (starts ++ [(out.length : Int)]) (ends ++ [(out.length : Int)]) pos si ni wi ∧ Below D w w' := by
  obtain ⟨p, kinds, hd, hnk, hne⟩ := h
  have c0 : w.cell? ⟨D, 0, none⟩ = some (.slice p.ao out.length p.co) := hd.cell 0
  have c1 : w.cell? ⟨D, 1, none⟩ = some (.slice p.as' starts.length p.cs) := hd.cell 1
  have hlt := hd.lt
  have f1 := hd.frozen 1
  have HD : Hid (Doc w D p out starts ends kinds pos si ni wi) := hd
  have sD := hd.sD
  clear hd
  go_enter Try.func20, Try.ntmps20
  go_upto_region 1 with fail
  go_cut [] from 5 to 18 (fun wc => ∃ p', Doc wc D p' out (starts ++ [(out.length : Int)]) ends kinds pos si ni wi ∧ p'.nk = starts.length ∧ Below D w wc)
  case first =>
    go_region_law
      ((refine step_appI (by rfl) _ _ (by rfl) D p.as' starts.length p.cs starts (by rfl) (HD.out.laid _).sts ⟨w.heap.size, 0, none⟩ 1 (out.length : Int) (by rfl) (by simp) (by omega) (by simp; omega) ?_; intro a1 k1 w1 hb1 hg1; have hc1 : w1.cell? ⟨D, 1, none⟩ = some (.slice p.as' starts.length p.cs) := ((HD.out.laid _).cellG hg1 sD 1).1; have hf1 := ((HD.out.laid _).cellG hg1 sD 1).2))
    all_goals
      go_wp2_with fail
      go_meet
      case rel =>
        exact ⟨_, (HD.out.laid _).setStarts hg1 hb1, hnk, below_laid (Nat.le_of_lt hlt) hg1 (own_base HD.out.sts)⟩
  case rest =>
    obtain ⟨p1, hd1, hnk1, hB1⟩ := hcut
    have c0 : wc.cell? ⟨D, 0, none⟩ = some (.slice p1.ao out.length p1.co) := hd1.cell 0
    have c2 : wc.cell? ⟨D, 2, none⟩ = some (.slice p1.ae ends.length p1.ce) := hd1.cell 2
    have hlt1 := hd1.lt
    have f2 := hd1.frozen 2
    have HD1 : Hid (Doc wc D p1 out (starts ++ [(out.length : Int)]) ends kinds pos si ni wi) := hd1
    have eD := hd1.eD
    have HB1 : Hid (Below D w wc) := hB1
    have HNK1 : Hid (p1.nk = starts.length) := hnk1
    have HNE : Hid (ends.length = starts.length) := hne
    have hne1 : ends.length ≤ 1000000000 := by omega
    have hnk2 : p1.nk ≤ 1000000000 := by omega
    clear hd1 HD c1 f1 hlt sD hB1 hnk1 hne hnk
    go_upto_region 2 with fail
    go_cut [] from 19 to 32 (fun wd => ∃ p', Doc wd D p' out (starts ++ [(out.length : Int)]) (ends ++ [(out.length : Int)]) kinds pos si ni wi ∧ p'.nk = p1.nk ∧ Below D wc wd)
    case first =>
      go_region_law
        ((refine step_appI (by rfl) _ _ (by rfl) D p1.ae ends.length p1.ce ends (by rfl) (HD1.out.laid _).ens ⟨wc.heap.size, 0, none⟩ 1 (out.length : Int) (by rfl) (by simp) (by omega) (by simp; omega) ?_; intro a1 k1 w1 hb1 hg1; have hc1 : w1.cell? ⟨D, 2, none⟩ = some (.slice p1.ae ends.length p1.ce) := ((HD1.out.laid _).cellG hg1 eD 2).1; have hf1 := ((HD1.out.laid _).cellG hg1 eD 2).2))
      all_goals
        go_wp2_with fail
        go_meet
        case rel =>
          exact ⟨_, (HD1.out.laid _).setEnds hg1 hb1, rfl, below_laid (Nat.le_of_lt hlt1) hg1 (own_base HD1.out.ens)⟩
    case rest =>
      obtain ⟨p2, hd2, hnk3, hB2⟩ := hcut
      have c3 : wc.cell? ⟨D, 3, none⟩ = some (.slice p2.ak p2.nk p2.ck) := hd2.cell 3
      have hlt2 := hd2.lt
      have HD2 : Hid (Doc wc D p2 out (starts ++ [(out.length : Int)]) (ends ++ [(out.length : Int)]) kinds pos si ni wi) := hd2
      have hnk4 : p2.nk ≤ 1000000000 := by omega
      have HNK2 : Hid (p2.nk = p1.nk) := hnk3
      have HB2 := show Hid _ from hB2
      clear hd2 HD1 c0 c2 f2 hlt1 eD hB2 hnk3
      go_wp2_with (at_builtin; refine app rfl (.tmp 37) (.tmp 39) rfl D _ _ _ kinds rfl (HD2.out.kin.alloc _) ⟨wc.heap.size, 0, none⟩ 1 1 [kind] rfl rfl ?c1 ?c2 ?c3 ?c4 ?_)
      case c1 => intro j hj; match j, hj with | 0, _ => simp [Addr.add]
      case c2 => intro y hy; simp at hy; omega
      case c3 => omega
      case c4 => simp; omega
      intro a3 k3 w3 hb3 hg3
      have hdA : Doc (wc.alloc (.cells #[.int .u8 kind] 5)) D p2 out (starts ++ [(out.length : Int)]) (ends ++ [(out.length : Int)]) kinds pos si ni wi := HD2.out.grow (Grew.alloc _ _ _)
      have hc3 : w3.cell? ⟨D, 3, none⟩ = some (.slice p2.ak p2.nk p2.ck) := (hdA.cellG hg3 hdA.kD 3).1
      have hf3 := (hdA.cellG hg3 hdA.kD 3).2
      have HD3 := show Hid _ from hdA.setKinds hg3 hb3
      have hB3 : Below D wc (w3.setCell ⟨D, 3, none⟩ (.slice a3 (p2.nk + 1) k3)) := (((Below.refl D wc).alloc (Nat.le_of_lt hlt2) _).trans (hg3.below (by simp; omega) (own_base HD2.out.kin.own))).setCell (Nat.le_refl _) _
      have HB3 := show Hid _ from hB3
      have c1 : (w3.setCell ⟨D, 3, none⟩ (.slice a3 (p2.nk + 1) k3)).cell? ⟨D, 1, none⟩ = some (.slice p2.as' (starts.length + 1) p2.cs) := by have := HD3.out.cell 1; rw [this]; simp [fields]
      clear hdA hB3 hb3 hg3 HD2 c3
      go_wp2
      go_ret
      exact ⟨ret_int (by omega), ⟨_, _, HD3.out, by have := HNK1.out; have := HNK2.out; simp; omega, by have := HNE.out; simp; omega⟩, HB1.out.trans (HB2.out.trans HB3.out)⟩
end Go.Proofs.Qxb6600588a.Base
