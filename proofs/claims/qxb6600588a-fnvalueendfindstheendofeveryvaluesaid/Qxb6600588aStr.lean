import Derived.Test.Qxb6600588aLit
namespace Go.Proofs.Qxb6600588a.Base
open Go.RowKit
set_option linter.unusedVariables false
set_option linter.unusedSimpArgs false

/-- The slice at address 'a', of length 'n', reads as the strings 'ss'. -/
structure SRow (w : World) (a : Option Addr) (n : Nat) (ss : List ByteArray) : Prop where
  len : ss.length = n
  cell : ∀ x, a = some x → ∀ i, (hi : i < ss.length) → w.cell? (x.add i) = some (.string ss[i])
  zero : a = none → n = 0

theorem SRow.at {w : World} {a : Option Addr} {n : Nat} {ss : List ByteArray} (h : SRow w a n ss) (hp : 0 < n) :
    ∃ b off, a = some ⟨b, off, none⟩ ∧ b < w.heap.size ∧ ∀ j, (hj : j < ss.length) → w.cell? ⟨b, off + j, none⟩ = some (.string ss[j]) := by
  obtain ⟨hl, hc, hz⟩ := h
  subst hl
  cases a with
  | none => have := hz rfl; omega
  | some x =>
    obtain ⟨b, off, spot⟩ := x
    have h0 := hc _ rfl 0 hp
    have hspot : spot = none := by simpa [Addr.add] using World.cell?_spot h0
    subst hspot
    refine ⟨b, off, rfl, ?_, fun j hj => ?_⟩
    · have := lt_of_cell h0
      simpa [Addr.add] using this
    · rw [← Go.WideShapes.add_plain]; exact hc _ rfl j hj

set_option maxRecDepth 100000 in
set_option maxHeartbeats 1600000 in
/-- zzStr, the string known. -/
theorem str_core (w : World) (D : Nat) (a : Option Addr) (n c : Nat) (mode : Int) (s : ByteArray) (out starts ends : List Int) (pos si ni wi : Nat) (h : DocX w D out starts ends pos si ni wi) (hn : starts.length ≤ 1000000000) (ho : out.length ≤ 900000000000) (hs : s.size ≤ 65536) (hsi : si ≤ 1000000000)
    (hcase : (n ≤ si ∧ s = ⟨#[]⟩) ∨ (si < n ∧ ∃ b off, a = some ⟨b, off, none⟩ ∧ b < D ∧ w.cell? ⟨b, off + si, none⟩ = some (.string s))) :
    Calls Try.prog 19 #[.pointer (some ⟨D, 0, none⟩), .slice a n c, .int .u8 mode] w fun e w' => e = .returned (.tuple #[]) ∧ ∃ body, okBody body = true ∧ body.length ≤ 6 * 65536 ∧
      DocX w' D (out ++ 34 :: (body ++ [34])) (starts ++ [(out.length : Int)]) (ends ++ [(out.length : Int) + ((body.length : Int) + 2)]) pos (si + 1) ni wi ∧ Below D w w' := by
  obtain ⟨p, kinds, hd, hnk, hne⟩ := h
  have c5 : w.cell? ⟨D, 5, none⟩ = some (.int .i64 si) := hd.cell 5
  have f5 := hd.frozen 5
  have hlt := hd.lt
  have hx1 : DocX (w.setCell ⟨D, 5, none⟩ (.int .i64 (si + 1))) D out starts ends pos (si + 1) ni wi := ⟨p, kinds, hd.setSi (si + 1), hnk, hne⟩
  have op := open_any _ D 2 out starts ends pos (si + 1) ni wi (by omega) hx1 hn (by omega)
  have hB0 : Below D w (w.setCell ⟨D, 5, none⟩ (.int .i64 (si + 1))) := (Below.refl D w).setCell (Nat.le_refl _) _
  clear hd hx1
  have HNE : Hid (ends.length = starts.length) := hne
  clear hne hnk
  rcases hcase with ⟨hge, rfl⟩ | ⟨hltn, b, off, rfl, hbD, hcs⟩
  all_goals
    go_enter Try.func19, Try.ntmps19
    go_wp2_with fail
    refine op.mono ?_
    rintro e w1 ⟨rfl, ⟨p1, kinds1, hd, hnk, hne1⟩, hB1⟩
    clear op
    have c0 : w1.cell? ⟨D, 0, none⟩ = some (.slice p1.ao out.length p1.co) := hd.cell 0
    have hlt1 := hd.lt
    have HD := show Hid _ from hd
    have oD := hd.oD
    have HB := show Hid _ from hB0.trans hB1
    clear hd hB0 hB1
    go_wp2_with fail
    refine (quote_any D p1.ao out.length p1.co out _ _ w1 HD.out.out (by omega) (by first | omega | (show _ + 6 * 0 + 2 ≤ _; omega))).mono ?_
    rintro e w2 ⟨a2, n2, k2, body, rfl, okb, leb, hn2, hb2, hg2⟩
    have hc0 : w2.cell? ⟨D, 0, none⟩ = some (.slice p1.ao out.length p1.co) := (HD.out.cellG hg2 oD 0).1
    have hf0 := (HD.out.cellG hg2 oD 0).2
    have HD2 := show Hid _ from HD.out.setOut hg2 hb2
    have HB2 : Hid (Below D w (w2.setCell ⟨D, 0, none⟩ (.slice a2 n2 k2))) := (HB.out.trans (hg2.below (by omega) (own_base HD.out.out.own))).setCell (Nat.le_refl _) _
    have HN2 := show Hid _ from hn2
    clear hb2 hg2 HB HD oD c0 hn2
    go_upto_region 6 with fail
    generalize hW3 : w2.setCell ⟨D, 0, none⟩ (.slice a2 n2 k2) = w3 at *
    clear hW3 hc0 hf0
    obtain ⟨g, cap, c2, hcg, hfg, hDg, hset⟩ := HD2.out.atEnd (e0 := ends) (e1 := []) ((out.length : Int) + ((body.length : Int) + 2))
    simp only [List.length_nil, Nat.zero_add] at c2
    rw [HNE.out] at c2 hcg hfg hset
    have c0 : w3.cell? ⟨D, 0, none⟩ = some (.slice a2 (out.length + (body.length + 2)) k2) := by have := HD2.out.cell 0; rw [this]; simp [fields]
    have HS := show Hid _ from hset
    have hgD : g ≠ D := by omega
    have b1 : (0 : Int) ≤ (starts.length : Int) := by omega
    have b2 : (starts.length : Int) < (starts.length : Int) + 1 := by omega
    have hlg : D < w3.heap.size := HD2.out.lt
    clear hset HD2
    go_region_held3 (fun w' => w'.cell? ⟨D, 0, none⟩ = some (.slice a2 (out.length + (body.length + 2)) k2) ∧ w'.cell? ⟨D, 2, none⟩ = some (.slice (some ⟨g, 0, none⟩) (starts.length + 1) cap)) (go_keep) (fail)
    go_wp2
    go_end0
    exact ⟨rfl, body, okb, by first | omega | (have : body.length ≤ 6 * 0 := leb; omega), ⟨_, _, HS.out.carry rfl, hnk, by simpa using hne1⟩, (HB2.out.setCell (Nat.le_of_lt hDg) _).drew⟩
end Go.Proofs.Qxb6600588a.Base
