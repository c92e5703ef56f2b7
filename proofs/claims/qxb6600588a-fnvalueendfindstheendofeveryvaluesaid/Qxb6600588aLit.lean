import Derived.Test.Qxb6600588aOpen
import Derived.Test.Qxb6600588aQuote2
namespace Go.Proofs.Qxb6600588a.Base
open Go.RowKit
set_option linter.unusedVariables false
set_option linter.unusedSimpArgs false

/-- 'd.ends[k] = len(d.out)': what the walk asks, and what it leaves. -/
theorem Doc.atEnd {w : World} {D : Nat} {p : Ad} {out starts kinds e0 e1 : List Int} {x : Int} {pos si ni wi : Nat} (h : Doc w D p out starts (e0 ++ x :: e1) kinds pos si ni wi) (v : Int) :
    ∃ g cap, w.cell? ⟨D, 2, none⟩ = some (.slice (some ⟨g, 0, none⟩) (e0.length + (e1.length + 1)) cap) ∧ w.cell? ⟨g, e0.length, none⟩ = some (.int .i64 x) ∧ w.frozen? ⟨g, e0.length, none⟩ = false ∧ D < g ∧
      Doc (w.setCell ⟨g, e0.length, none⟩ (.int .i64 v)) D p out starts (e0 ++ v :: e1) kinds pos si ni wi := by
  obtain ⟨g, cap, e1', e2, hcap, hcg, hfg, hDg, hset⟩ := h.setEnd e0.length (by simp) v
  refine ⟨g, cap, ?_, ?_, hfg, hDg, ?_⟩
  · have := h.cell 2
    rw [this]
    simp [fields, e1', e2]
  · rw [hcg]; simp
  · have : (e0 ++ x :: e1).set e0.length v = e0 ++ v :: e1 := by simp
    rw [this] at hset
    exact hset

set_option maxRecDepth 100000 in
set_option maxHeartbeats 1600000 in
theorem lit_any (w : World) (D : Nat) (kind : Int) (lit : ByteArray) (out starts ends : List Int) (pos si ni wi : Nat) (hk : 0 ≤ kind ∧ kind < 256) (hl : 0 < lit.size) (hl2 : lit.size ≤ 100) (h : DocX w D out starts ends pos si ni wi) (hn : starts.length ≤ 1000000000) (ho : out.length ≤ 900000000000) :
    Calls Try.prog 18 #[.pointer (some ⟨D, 0, none⟩), .int .u8 kind, .string lit] w fun e w' => e = .returned (.tuple #[]) ∧ DocX w' D (out ++ strInts lit) (starts ++ [(out.length : Int)]) (ends ++ [(out.length : Int) + (lit.size : Int)]) pos si ni wi ∧ Below D w w' := by
  have op := open_any w D kind out starts ends pos si ni wi hk h hn (by omega)
  have hne : ends.length = starts.length := h.choose_spec.choose_spec.2.2
  clear h
  go_enter Try.func18, Try.ntmps18
  go_wp2_with fail
  refine op.mono ?_
  rintro e w1 ⟨rfl, ⟨p, kinds, hd, hnk, hne1⟩, hB1⟩
  clear op
  have c0 : w1.cell? ⟨D, 0, none⟩ = some (.slice p.ao out.length p.co) := hd.cell 0
  have hlt := hd.lt
  have HD := show Hid _ from hd
  have oD := hd.oD
  clear hd
  go_wp2_with (at_builtin; refine app_str rfl (.tmp 14) (.tmp 15) rfl D _ _ _ out rfl HD.out.out lit rfl hl (by omega) (by omega) ?_)
  intro a2 k2 w2 hb2 hg2
  have hc0 : w2.cell? ⟨D, 0, none⟩ = some (.slice p.ao out.length p.co) := (HD.out.cellG hg2 oD 0).1
  have hf0 := (HD.out.cellG hg2 oD 0).2
  have HD2 := show Hid _ from HD.out.setOut hg2 hb2
  have HB2 : Hid (Below D w (w2.setCell ⟨D, 0, none⟩ (.slice a2 (out.length + lit.size) k2))) := (hB1.trans (hg2.below (by omega) (own_base HD.out.out.own))).setCell (Nat.le_refl _) _
  clear hb2 hg2 hB1 HD oD c0
  go_upto_region 2 with fail
  generalize hW3 : w2.setCell ⟨D, 0, none⟩ (.slice a2 (out.length + lit.size) k2) = w3 at *
  clear hW3 hc0 hf0
  obtain ⟨g, cap, c2, hcg, hfg, hDg, hset⟩ := HD2.out.atEnd (e0 := ends) (e1 := []) ((out.length : Int) + (lit.size : Int))
  simp only [List.length_nil, Nat.zero_add] at c2
  rw [hne] at c2 hcg hfg hset
  have c0 : w3.cell? ⟨D, 0, none⟩ = some (.slice a2 (out.length + lit.size) k2) := by have := HD2.out.cell 0; rw [this]; simp [fields, strInts_length]
  have HS := show Hid _ from hset
  have hgD : g ≠ D := by omega
  have b1 : (0 : Int) ≤ (starts.length : Int) := by omega
  have b2 : (starts.length : Int) < (starts.length : Int) + 1 := by omega
  have hlg : D < w3.heap.size := HD2.out.lt
  clear hset HD2 hne
  go_region_held3 (fun w' => w'.cell? ⟨D, 0, none⟩ = some (.slice a2 (out.length + lit.size) k2) ∧ w'.cell? ⟨D, 2, none⟩ = some (.slice (some ⟨g, 0, none⟩) (starts.length + 1) cap)) (go_keep) (fail)
  go_wp2
  go_end0
  exact ⟨rfl, ⟨_, _, HS.out.carry rfl, hnk, by simpa using hne1⟩, (HB2.out.setCell (Nat.le_of_lt hDg) _).drew⟩
end Go.Proofs.Qxb6600588a.Base
