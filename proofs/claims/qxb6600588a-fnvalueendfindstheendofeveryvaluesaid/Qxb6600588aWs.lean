import Derived.Test.Qxb6600588aOpen
namespace Go.Proofs.Qxb6600588a.Base
open Go.RowKit
set_option linter.unusedVariables false
set_option linter.unusedSimpArgs false

/-- A JSON whitespace byte. -/
def wsb (x : Int) : Prop := x = 32 ∨ x = 9 ∨ x = 13 ∨ x = 10

set_option maxRecDepth 100000 in
set_option maxHeartbeats 1600000 in
theorem ws0 (w : World) (D : Nat) (out starts ends : List Int) (pos si ni wi : Nat) (h : DocX w D out starts ends pos si ni wi) (ho : out.length ≤ 1000000000000) (hwi : wi ≤ 1000000000) (hwr : wi % 4 = 0) :
    Calls Try.prog 22 #[.pointer (some ⟨D, 0, none⟩)] w fun e w' => e = .returned (.tuple #[]) ∧ DocX w' D (out ++ [32]) starts ends pos si ni (wi + 1) ∧ Below D w w' := by
  obtain ⟨p, kinds, hd, hnk, hne⟩ := h
  have c0 : w.cell? ⟨D, 0, none⟩ = some (.slice p.ao out.length p.co) := hd.cell 0
  have c7 : w.cell? ⟨D, 7, none⟩ = some (.int .i64 wi) := hd.cell 7
  have hlt := hd.lt
  have f0 := hd.frozen 0
  have HD : Hid (Doc w D p out starts ends kinds pos si ni wi) := hd
  have oD := hd.oD
  have hwr' : (wi : Int).tmod 4 = 0 := by rw [Int.tmod_eq_emod_of_nonneg (by omega)]; omega
  have hidx : ∀ w : World, (Instr.index 9 (.string ⟨#[32, 9, 13, 10]⟩) (.int .i64 0)).run Try.prog w = .ok (.int .u8 32) w := fun w => by kernel_rfl
  clear hd hwr
  go_enter Try.func22, Try.ntmps22
  go_upto_region 0 with fail
  go_cut [] from 2 to 16 (fun wc => ∃ p', Doc wc D p' (out ++ [32]) starts ends kinds pos si ni wi ∧ p'.nk = p.nk ∧ Below D w wc)
  case first =>
    go_region_law
      ((refine step_app1 (by rfl) _ _ (by rfl) D p.ao out.length p.co out (by rfl) (HD.out.laid _).out ⟨w.heap.size, 0, none⟩ 1 (32 : Int) (by rfl) (by simp) (by omega) (by omega) (by simp; omega) ?_; intro a1 k1 w1 hb1 hg1; have hc1 : w1.cell? ⟨D, 0, none⟩ = some (.slice p.ao out.length p.co) := ((HD.out.laid _).cellG hg1 oD 0).1; have hf1 := ((HD.out.laid _).cellG hg1 oD 0).2))
    all_goals
      go_wp2_with fail
      go_meet
      case rel =>
        exact ⟨_, (HD.out.laid _).setOut hg1 hb1, rfl, below_laid (Nat.le_of_lt hlt) hg1 (own_base HD.out.out.own)⟩
  case rest =>
    obtain ⟨p1, hd1, hnk1, hB1⟩ := hcut
    have c7 : wc.cell? ⟨D, 7, none⟩ = some (.int .i64 wi) := hd1.cell 7
    have f7 := hd1.frozen 7
    have HD1 := show Hid _ from hd1.setWi (wi + 1)
    have HN : Hid (p1.nk = starts.length) := hnk1.trans hnk
    clear hd1 hnk1 hnk HD c0 f0 oD hwr' hidx
    go_wp2
    go_end0
    exact ⟨rfl, ⟨_, _, HD1.out, HN.out, hne⟩, hB1.setCell (Nat.le_refl _) _⟩

set_option maxRecDepth 100000 in
set_option maxHeartbeats 1600000 in
theorem ws1 (w : World) (D : Nat) (out starts ends : List Int) (pos si ni wi : Nat) (h : DocX w D out starts ends pos si ni wi) (ho : out.length ≤ 1000000000000) (hwi : wi ≤ 1000000000) (hwr : wi % 4 = 1) :
    Calls Try.prog 22 #[.pointer (some ⟨D, 0, none⟩)] w fun e w' => e = .returned (.tuple #[]) ∧ DocX w' D (out ++ [9]) starts ends pos si ni (wi + 1) ∧ Below D w w' := by
  obtain ⟨p, kinds, hd, hnk, hne⟩ := h
  have c0 : w.cell? ⟨D, 0, none⟩ = some (.slice p.ao out.length p.co) := hd.cell 0
  have c7 : w.cell? ⟨D, 7, none⟩ = some (.int .i64 wi) := hd.cell 7
  have hlt := hd.lt
  have f0 := hd.frozen 0
  have HD : Hid (Doc w D p out starts ends kinds pos si ni wi) := hd
  have oD := hd.oD
  have hwr' : (wi : Int).tmod 4 = 1 := by rw [Int.tmod_eq_emod_of_nonneg (by omega)]; omega
  have hidx : ∀ w : World, (Instr.index 9 (.string ⟨#[32, 9, 13, 10]⟩) (.int .i64 1)).run Try.prog w = .ok (.int .u8 9) w := fun w => by kernel_rfl
  clear hd hwr
  go_enter Try.func22, Try.ntmps22
  go_upto_region 0 with fail
  go_cut [] from 2 to 16 (fun wc => ∃ p', Doc wc D p' (out ++ [9]) starts ends kinds pos si ni wi ∧ p'.nk = p.nk ∧ Below D w wc)
  case first =>
    go_region_law
      ((refine step_app1 (by rfl) _ _ (by rfl) D p.ao out.length p.co out (by rfl) (HD.out.laid _).out ⟨w.heap.size, 0, none⟩ 1 (9 : Int) (by rfl) (by simp) (by omega) (by omega) (by simp; omega) ?_; intro a1 k1 w1 hb1 hg1; have hc1 : w1.cell? ⟨D, 0, none⟩ = some (.slice p.ao out.length p.co) := ((HD.out.laid _).cellG hg1 oD 0).1; have hf1 := ((HD.out.laid _).cellG hg1 oD 0).2))
    all_goals
      go_wp2_with fail
      go_meet
      case rel =>
        exact ⟨_, (HD.out.laid _).setOut hg1 hb1, rfl, below_laid (Nat.le_of_lt hlt) hg1 (own_base HD.out.out.own)⟩
  case rest =>
    obtain ⟨p1, hd1, hnk1, hB1⟩ := hcut
    have c7 : wc.cell? ⟨D, 7, none⟩ = some (.int .i64 wi) := hd1.cell 7
    have f7 := hd1.frozen 7
    have HD1 := show Hid _ from hd1.setWi (wi + 1)
    have HN : Hid (p1.nk = starts.length) := hnk1.trans hnk
    clear hd1 hnk1 hnk HD c0 f0 oD hwr' hidx
    go_wp2
    go_end0
    exact ⟨rfl, ⟨_, _, HD1.out, HN.out, hne⟩, hB1.setCell (Nat.le_refl _) _⟩

set_option maxRecDepth 100000 in
set_option maxHeartbeats 1600000 in
theorem ws2 (w : World) (D : Nat) (out starts ends : List Int) (pos si ni wi : Nat) (h : DocX w D out starts ends pos si ni wi) (ho : out.length ≤ 1000000000000) (hwi : wi ≤ 1000000000) (hwr : wi % 4 = 2) :
    Calls Try.prog 22 #[.pointer (some ⟨D, 0, none⟩)] w fun e w' => e = .returned (.tuple #[]) ∧ DocX w' D (out ++ [13]) starts ends pos si ni (wi + 1) ∧ Below D w w' := by
  obtain ⟨p, kinds, hd, hnk, hne⟩ := h
  have c0 : w.cell? ⟨D, 0, none⟩ = some (.slice p.ao out.length p.co) := hd.cell 0
  have c7 : w.cell? ⟨D, 7, none⟩ = some (.int .i64 wi) := hd.cell 7
  have hlt := hd.lt
  have f0 := hd.frozen 0
  have HD : Hid (Doc w D p out starts ends kinds pos si ni wi) := hd
  have oD := hd.oD
  have hwr' : (wi : Int).tmod 4 = 2 := by rw [Int.tmod_eq_emod_of_nonneg (by omega)]; omega
  have hidx : ∀ w : World, (Instr.index 9 (.string ⟨#[32, 9, 13, 10]⟩) (.int .i64 2)).run Try.prog w = .ok (.int .u8 13) w := fun w => by kernel_rfl
  clear hd hwr
  go_enter Try.func22, Try.ntmps22
  go_upto_region 0 with fail
  go_cut [] from 2 to 16 (fun wc => ∃ p', Doc wc D p' (out ++ [13]) starts ends kinds pos si ni wi ∧ p'.nk = p.nk ∧ Below D w wc)
  case first =>
    go_region_law
      ((refine step_app1 (by rfl) _ _ (by rfl) D p.ao out.length p.co out (by rfl) (HD.out.laid _).out ⟨w.heap.size, 0, none⟩ 1 (13 : Int) (by rfl) (by simp) (by omega) (by omega) (by simp; omega) ?_; intro a1 k1 w1 hb1 hg1; have hc1 : w1.cell? ⟨D, 0, none⟩ = some (.slice p.ao out.length p.co) := ((HD.out.laid _).cellG hg1 oD 0).1; have hf1 := ((HD.out.laid _).cellG hg1 oD 0).2))
    all_goals
      go_wp2_with fail
      go_meet
      case rel =>
        exact ⟨_, (HD.out.laid _).setOut hg1 hb1, rfl, below_laid (Nat.le_of_lt hlt) hg1 (own_base HD.out.out.own)⟩
  case rest =>
    obtain ⟨p1, hd1, hnk1, hB1⟩ := hcut
    have c7 : wc.cell? ⟨D, 7, none⟩ = some (.int .i64 wi) := hd1.cell 7
    have f7 := hd1.frozen 7
    have HD1 := show Hid _ from hd1.setWi (wi + 1)
    have HN : Hid (p1.nk = starts.length) := hnk1.trans hnk
    clear hd1 hnk1 hnk HD c0 f0 oD hwr' hidx
    go_wp2
    go_end0
    exact ⟨rfl, ⟨_, _, HD1.out, HN.out, hne⟩, hB1.setCell (Nat.le_refl _) _⟩

set_option maxRecDepth 100000 in
set_option maxHeartbeats 1600000 in
theorem ws3 (w : World) (D : Nat) (out starts ends : List Int) (pos si ni wi : Nat) (h : DocX w D out starts ends pos si ni wi) (ho : out.length ≤ 1000000000000) (hwi : wi ≤ 1000000000) (hwr : wi % 4 = 3) :
    Calls Try.prog 22 #[.pointer (some ⟨D, 0, none⟩)] w fun e w' => e = .returned (.tuple #[]) ∧ DocX w' D (out ++ [10]) starts ends pos si ni (wi + 1) ∧ Below D w w' := by
  obtain ⟨p, kinds, hd, hnk, hne⟩ := h
  have c0 : w.cell? ⟨D, 0, none⟩ = some (.slice p.ao out.length p.co) := hd.cell 0
  have c7 : w.cell? ⟨D, 7, none⟩ = some (.int .i64 wi) := hd.cell 7
  have hlt := hd.lt
  have f0 := hd.frozen 0
  have HD : Hid (Doc w D p out starts ends kinds pos si ni wi) := hd
  have oD := hd.oD
  have hwr' : (wi : Int).tmod 4 = 3 := by rw [Int.tmod_eq_emod_of_nonneg (by omega)]; omega
  have hidx : ∀ w : World, (Instr.index 9 (.string ⟨#[32, 9, 13, 10]⟩) (.int .i64 3)).run Try.prog w = .ok (.int .u8 10) w := fun w => by kernel_rfl
  clear hd hwr
  go_enter Try.func22, Try.ntmps22
  go_upto_region 0 with fail
  go_cut [] from 2 to 16 (fun wc => ∃ p', Doc wc D p' (out ++ [10]) starts ends kinds pos si ni wi ∧ p'.nk = p.nk ∧ Below D w wc)
  case first =>
    go_region_law
      ((refine step_app1 (by rfl) _ _ (by rfl) D p.ao out.length p.co out (by rfl) (HD.out.laid _).out ⟨w.heap.size, 0, none⟩ 1 (10 : Int) (by rfl) (by simp) (by omega) (by omega) (by simp; omega) ?_; intro a1 k1 w1 hb1 hg1; have hc1 : w1.cell? ⟨D, 0, none⟩ = some (.slice p.ao out.length p.co) := ((HD.out.laid _).cellG hg1 oD 0).1; have hf1 := ((HD.out.laid _).cellG hg1 oD 0).2))
    all_goals
      go_wp2_with fail
      go_meet
      case rel =>
        exact ⟨_, (HD.out.laid _).setOut hg1 hb1, rfl, below_laid (Nat.le_of_lt hlt) hg1 (own_base HD.out.out.own)⟩
  case rest =>
    obtain ⟨p1, hd1, hnk1, hB1⟩ := hcut
    have c7 : wc.cell? ⟨D, 7, none⟩ = some (.int .i64 wi) := hd1.cell 7
    have f7 := hd1.frozen 7
    have HD1 := show Hid _ from hd1.setWi (wi + 1)
    have HN : Hid (p1.nk = starts.length) := hnk1.trans hnk
    clear hd1 hnk1 hnk HD c0 f0 oD hwr' hidx
    go_wp2
    go_end0
    exact ⟨rfl, ⟨_, _, HD1.out, HN.out, hne⟩, hB1.setCell (Nat.le_refl _) _⟩

theorem ws_any (w : World) (D : Nat) (out starts ends : List Int) (pos si ni wi : Nat) (h : DocX w D out starts ends pos si ni wi) (ho : out.length ≤ 1000000000000) (hwi : wi ≤ 1000000000) :
    Calls Try.prog 22 #[.pointer (some ⟨D, 0, none⟩)] w fun e w' => e = .returned (.tuple #[]) ∧ ∃ x, wsb x ∧ DocX w' D (out ++ [x]) starts ends pos si ni (wi + 1) ∧ Below D w w' := by
  have hr : wi % 4 = 0 ∨ wi % 4 = 1 ∨ wi % 4 = 2 ∨ wi % 4 = 3 := by omega
  rcases hr with hr | hr | hr | hr
  · exact (ws0 w D out starts ends pos si ni wi h ho hwi hr).mono fun e w' q => ⟨q.1, 32, .inl rfl, q.2⟩
  · exact (ws1 w D out starts ends pos si ni wi h ho hwi hr).mono fun e w' q => ⟨q.1, 9, .inr (.inl rfl), q.2⟩
  · exact (ws2 w D out starts ends pos si ni wi h ho hwi hr).mono fun e w' q => ⟨q.1, 13, .inr (.inr (.inl rfl)), q.2⟩
  · exact (ws3 w D out starts ends pos si ni wi h ho hwi hr).mono fun e w' q => ⟨q.1, 10, .inr (.inr (.inr rfl)), q.2⟩
end Go.Proofs.Qxb6600588a.Base
