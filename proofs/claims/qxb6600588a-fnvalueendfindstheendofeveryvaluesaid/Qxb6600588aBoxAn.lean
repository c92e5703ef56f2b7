import Derived.Test.Qxb6600588aMid
namespace Go.Proofs.Qxb6600588a.Base
open Go.RowKit
set_option linter.unusedVariables false
set_option linter.unusedSimpArgs false

set_option maxRecDepth 100000 in
set_option maxHeartbeats 3200000 in
theorem val_arr_no (W w : World) (D : Nat) (a : Option Addr) (n ca : Nat) (xs : List Int) (b : Option Addr) (m cb : Nat) (ss : List ByteArray) (c : Option Addr) (q cc : Nat) (out starts ends : List Int) (pos si ni wi : Nat)
    (hc : Came W D a n xs b m ss c q) (hB : Below D W w) (h : DocX w D out starts ends pos si ni wi) (hf : Fit n out.length starts.length pos si ni wi) (hp : pos < n)
    (x : Int) (hx0 : 0 ≤ x) (hx1 : x < 256) (ad : Nat) (off : Nat) (ha : a = some ⟨ad, off, none⟩) (had : ad < D) (hcx : w.cell? ⟨ad, off + pos, none⟩ = some (.int .u8 x)) (e0 : x % 8 = 6) (hsp : (bits BinOp.and IntKind.u8 (x / 32) 1 == 1) = false)
    (ih : ∀ (w : World) (T S' E' : List Int) (pos2 si ni wi : Nat), pos < pos2 → pos2 < n → Below D W w → DocX w D T S' E' pos2 si ni wi → Fit n T.length S'.length pos2 si ni wi → ValSaid W D a n ca b m cb c q cc w T S' E' pos2 si ni wi) :
    ValSaid W D a n ca b m cb c q cc w out starts ends pos si ni wi := by
  unfold ValSaid
  obtain ⟨hf1, hf2, hf3, hf4, hf5⟩ := hf
  have hlim := hc.lim
  obtain ⟨p, kinds, hd, hnk, hne⟩ := h
  have c4 : w.cell? ⟨D, 4, none⟩ = some (.int .i64 pos) := hd.cell 4
  have f4 := hd.frozen 4
  have hX : DocX (w.setCell ⟨D, 4, none⟩ (.int .i64 ((pos : Int) + 1))) D out starts ends (pos + 1) si ni wi := ⟨p, kinds, hd.setPos (pos + 1), hnk, hne⟩
  have hB1 : Below D w (w.setCell ⟨D, 4, none⟩ (.int .i64 ((pos : Int) + 1))) := (Below.refl D w).setCell (Nat.le_refl _) _
  have hBW := hB.trans hB1
  have HC := show Hid _ from hc
  clear hd hc
  have hnp : decide (n ≤ pos) = false := by simp; omega
  have t0 : (x % 8 == 0) = false := by simp; omega
  have t1 : (x % 8 == 1) = false := by simp; omega
  have t2 : (x % 8 == 2) = false := by simp; omega
  have t3 : (x % 8 == 3) = false := by simp; omega
  have t4 : (x % 8 == 4) = false := by simp; omega
  have t5 : (x % 8 == 5) = false := by simp; omega
  have t7 : (x % 8 == 7) = false := by simp; omega
  clear e0
  have opn := open_any _ D 1 out starts ends (pos + 1) si ni wi (by omega) hX (by omega) (by omega)
  have HIH := show Hid _ from ih
  have HF : Hid (Fit n out.length starts.length pos si ni wi) := ⟨hf1, hf2, hf3, hf4, hf5⟩
  have HBW0 := show Hid _ from hB
  have HNE : Hid (ends.length = starts.length) := hne
  clear ih hX hne hnk
  subst ha
  go_enter Try.func9, Try.ntmps9
  go_wp2_with fail
  refine opn.mono ?_
  rintro e w1 ⟨rfl, hX1, hB2⟩
  have HB1 := show Hid _ from hB1.trans hB2
  clear opn hB1 hB2 hBW hcx c4 f4
  obtain ⟨p1, kinds1, hd, hnkq, hneq⟩ := hX1
  have c0 : w1.cell? ⟨D, 0, none⟩ = some (.slice p1.ao (out).length p1.co) := hd.cell 0
  have hltq := hd.lt
  have HDq := show Hid _ from hd
  clear hd
  go_wp2_with (at_builtin; refine app rfl (.tmp 67) (.tmp 69) rfl D _ _ _ (out) rfl (HDq.out.out.alloc _) ⟨w1.heap.size, 0, none⟩ 1 1 [91] rfl rfl ?c1_1 ?c2_1 ?c3_1 ?c4_1 ?_)
  case c1_1 => intro j hj; match j, hj with | 0, _ => simp [Addr.add]
  case c2_1 => intro y hy; simp at hy; omega
  case c3_1 => omega
  case c4_1 => simp; omega
  intro aq kq wq hbq hgq
  have hdA := HDq.out.grow (Grew.alloc w1 (.cells #[.int .u8 91] 5) none)
  have hc0 : wq.cell? ⟨D, 0, none⟩ = some (.slice p1.ao (out).length p1.co) := (hdA.cellG hgq hdA.oD 0).1
  have hf0 := (hdA.cellG hgq hdA.oD 0).2
  have hXq : DocX (wq.setCell ⟨D, 0, none⟩ (.slice aq ((out).length + 1) kq)) D (out ++ [91]) (starts ++ [(out.length : Int)]) (ends ++ [(out.length : Int)]) (pos + 1) (si) (ni) (wi) := ⟨_, _, hdA.setOut hgq hbq, hnkq, hneq⟩
  have hBq : Below D w1 (wq.setCell ⟨D, 0, none⟩ (.slice aq ((out).length + 1) kq)) := (((Below.refl D w1).alloc (Nat.le_of_lt hltq) _).trans (hgq.below (by simp; omega) (own_base HDq.out.out.own))).setCell (Nat.le_refl _) _
  clear hdA hbq hgq HDq c0 hnkq hneq
  have HM0 := show Hid _ from mid_start hXq (HB1.out.trans hBq) hp
  clear hXq hBq HB1
  go_upto_region 17 with fail
  generalize hW3 : wq.setCell ⟨D, 0, none⟩ (.slice aq (out.length + 1) kq) = w2 at *
  clear hW3 hc0 hf0
  have hcn0 : 0 ≤ x / 8 % 4 ∧ x / 8 % 4 ≤ 3 := by omega
  go_wp2_with fail
  generalize x / 8 % 4 = cnt at *
  obtain ⟨cn, rfl⟩ := Int.eq_ofNat_of_zero_le hcn0.1
  have hcn3 : cn ≤ 3 := by omega
  generalize bits BinOp.or IntKind.u8 (x / 64) (bits BinOp.and IntKind.u8 (x / 2) 12) = km at *
  clear hcn0 t0 t1 t2 t3 t4 t5 t7 hsp hnp hx0 hx1
  go_loopw [19, 20] (fun wn ji wr => ∃ (j : Nat) (T S1 E1 : List Int) (pos1 si1 ni1 wi1 : Nat), wn = .int .i64 j ∧ ji = .int .i64 j ∧ j ≤ cn ∧ Hid (Mid w wr D n out starts ends pos si ni wi 91 Dl T S1 E1 pos1 si1 ni1 wi1 0 0) ∧ Hid (j = 0 → Mid w wr D n out starts ends pos si ni wi 91 AnyT T S1 E1 pos1 si1 ni1 wi1 0 0)) (fun _ ji _ => cn - (intOf ji).toNat)
  case atStart => exact ⟨0, _, _, _, _, _, _, _, rfl, rfl, Nat.zero_le _, HM0.out.weak, fun _ => HM0.out⟩
  case round =>
    obtain ⟨j, T, S1, E1, pos1, si1, ni1, wi1, rfl, rfl, hj, hmD, hmA⟩ := hrel
    clear HM0
    obtain ⟨g1, g2, g3, g4, g5⟩ := hmD.out.fit (by omega) (by omega) HF.out
    have c4 : wr.cell? ⟨D, 4, none⟩ = some (.int .i64 pos1) := hmD.out.doc.choose_spec.choose_spec.1.cell 4
    have hlo := hmD.out.lo
    have hhi := hmD.out.hi
    by_cases hjc : j < cn
    · by_cases hpn : pos1 < n
      · by_cases hj0 : j = 0
        · have HA := show Hid _ from hmA.out hj0
          subst hj0
          clear hmD hmA
          go_wp2_with fail
          have q9 := HIH.out wr T S1 E1 pos1 si1 ni1 wi1 hlo hpn (HBW0.out.trans HA.out.below) HA.out.doc (HA.out.fit (by omega) (by omega) HF.out)
          unfold ValSaid at q9
          refine q9.mono ?_
          rintro e wv ⟨rfl, hv⟩
          obtain ⟨T9, S9, E9, pos9, si9, ni9, wi9, hm9, _, hpp, hws⟩ := HA.out.val (by omega) (by omega) hv
          have HM9 := show Hid _ from hm9
          have HWS := show Hid _ from hws
          clear q9 hv hm9 hws HA c4 g1 g2 g3 g4 g5
          obtain ⟨g1, g2, g3, g4, g5⟩ := HM9.out.fit (by omega) (by omega) HF.out
          clear HWS g1 g2 g3 g4 g5
          go_wp2
          go_roundw
          case rel => exact ⟨0 + 1, _, _, _, _, _, _, _, by go_num, by go_num, by omega, HM9, fun h => by omega⟩
          case measure => simp [intOf]; omega
        · have hj1 : 0 < j := by omega
          clear hmA
          have hX8 := hmD.out.doc
          obtain ⟨p202, kinds202, hd, hnkq, hneq⟩ := hX8
          have c0 : wr.cell? ⟨D, 0, none⟩ = some (.slice p202.ao (T).length p202.co) := hd.cell 0
          have hltq := hd.lt
          have HDq := show Hid _ from hd
          clear hd
          go_wp2_with (at_builtin; refine app rfl (.tmp 97) (.tmp 98) rfl D _ _ _ (T) rfl (HDq.out.out.alloc _) ⟨wr.heap.size, 0, none⟩ 1 1 [44] rfl rfl ?c1_202 ?c2_202 ?c3_202 ?c4_202 ?_)
          case c1_202 => intro j hj; match j, hj with | 0, _ => simp [Addr.add]
          case c2_202 => intro y hy; simp at hy; omega
          case c3_202 => omega
          case c4_202 => simp; omega
          intro aq kq wq hbq hgq
          have hdA := HDq.out.grow (Grew.alloc wr (.cells #[.int .u8 44] 5) none)
          have hc0 : wq.cell? ⟨D, 0, none⟩ = some (.slice p202.ao (T).length p202.co) := (hdA.cellG hgq hdA.oD 0).1
          have hf0 := (hdA.cellG hgq hdA.oD 0).2
          have hXq : DocX (wq.setCell ⟨D, 0, none⟩ (.slice aq ((T).length + 1) kq)) D (T ++ [44]) (S1) (E1) (pos1) (si1) (ni1) (wi1) := ⟨_, _, hdA.setOut hgq hbq, hnkq, hneq⟩
          have hBq : Below D wr (wq.setCell ⟨D, 0, none⟩ (.slice aq ((T).length + 1) kq)) := (((Below.refl D wr).alloc (Nat.le_of_lt hltq) _).trans (hgq.below (by simp; omega) (own_base HDq.out.out.own))).setCell (Nat.le_refl _) _
          clear hdA hbq hgq HDq c0 hnkq hneq
          have Hb0 := show Hid _ from hmD.out.delim neutral_comma rfl hXq hBq (Nat.le_succ _)
          clear hXq hBq hmD g1 g2 g3 g4 g5
          go_upto_region 24 with fail
          generalize hW3 : wq.setCell ⟨D, 0, none⟩ (.slice aq (T.length + 1) kq) = wb0 at *
          clear hW3 hc0 hf0
          generalize T ++ [44] = Tb0 at *
          obtain ⟨g1, g2, g3, g4, g5⟩ := Hb0.out.fit (by omega) (by omega) HF.out
          go_wp2_with fail
          have q9 := HIH.out wb0 Tb0 S1 E1 pos1 si1 ni1 wi1 hlo hpn (HBW0.out.trans Hb0.out.below) Hb0.out.doc (Hb0.out.fit (by omega) (by omega) HF.out)
          unfold ValSaid at q9
          refine q9.mono ?_
          rintro e wv ⟨rfl, hv⟩
          obtain ⟨T9, S9, E9, pos9, si9, ni9, wi9, hm9, _, hpp, hws⟩ := Hb0.out.val (by omega) (by omega) hv
          have HM9 := show Hid _ from hm9
          have HWS := show Hid _ from hws
          clear q9 hv hm9 hws Hb0 c4 g1 g2 g3 g4 g5
          obtain ⟨g1, g2, g3, g4, g5⟩ := HM9.out.fit (by omega) (by omega) HF.out
          clear HWS g1 g2 g3 g4 g5
          go_wp2
          go_roundw
          case rel => exact ⟨j + 1, _, _, _, _, _, _, _, by go_num, by go_num, by omega, HM9, fun h => by omega⟩
          case measure => simp [intOf]; omega
      · by_cases hj0 : j = 0
        · have HA := show Hid _ from hmA.out hj0
          subst hj0
          clear hmD hmA
          obtain ⟨E8, hE8⟩ := HA.out.tailE
          have hX8 := HA.out.doc
          obtain ⟨p303, kinds303, hd, hnkq, hneq⟩ := hX8
          have c0 : wr.cell? ⟨D, 0, none⟩ = some (.slice p303.ao (T).length p303.co) := hd.cell 0
          have hltq := hd.lt
          have HDq := show Hid _ from hd
          clear hd
          go_wp2_with (at_builtin; refine app rfl (.tmp 146) (.tmp 148) rfl D _ _ _ (T) rfl (HDq.out.out.alloc _) ⟨wr.heap.size, 0, none⟩ 1 1 [93] rfl rfl ?c1_303 ?c2_303 ?c3_303 ?c4_303 ?_)
          case c1_303 => intro j hj; match j, hj with | 0, _ => simp [Addr.add]
          case c2_303 => intro y hy; simp at hy; omega
          case c3_303 => omega
          case c4_303 => simp; omega
          intro aq kq wq hbq hgq
          have hdA := HDq.out.grow (Grew.alloc wr (.cells #[.int .u8 93] 5) none)
          have hc0 : wq.cell? ⟨D, 0, none⟩ = some (.slice p303.ao (T).length p303.co) := (hdA.cellG hgq hdA.oD 0).1
          have hf0 := (hdA.cellG hgq hdA.oD 0).2
          have hXq : DocX (wq.setCell ⟨D, 0, none⟩ (.slice aq ((T).length + 1) kq)) D (T ++ [93]) (S1) (E1) (pos1) (si1) (ni1) (wi1) := ⟨_, _, hdA.setOut hgq hbq, hnkq, hneq⟩
          have hBq : Below D wr (wq.setCell ⟨D, 0, none⟩ (.slice aq ((T).length + 1) kq)) := (((Below.refl D wr).alloc (Nat.le_of_lt hltq) _).trans (hgq.below (by simp; omega) (own_base HDq.out.out.own))).setCell (Nat.le_refl _) _
          clear hdA hbq hgq HDq c0 hnkq hneq
          go_upto_region 40 with fail
          generalize hW3 : wq.setCell ⟨D, 0, none⟩ (.slice aq (T.length + 1) kq) = w8 at *
          clear hW3 hc0 hf0
          obtain ⟨p8, kinds8, hd8, hnk8, hne8⟩ := hXq
          have HE8 := show Hid _ from hE8
          rw [hE8] at hd8
          clear hE8
          obtain ⟨g, cap, c2, hcg, hfg, hDg, hset⟩ := hd8.atEnd (e0 := ends) (e1 := E8) ((T.length : Int) + 1)
          rw [HNE.out] at c2 hcg hfg hset
          have c0 : w8.cell? ⟨D, 0, none⟩ = some (.slice p8.ao (T.length + 1) p8.co) := by have := hd8.cell 0; rw [this]; simp [fields]
          have hgD : g ≠ D := by omega
          have b1 : (0 : Int) ≤ (starts.length : Int) := by omega
          have b2 : (starts.length : Int) < (starts.length : Int) + ((E8.length : Int) + 1) := by omega
          have hlg : D < w8.heap.size := hd8.lt
          have HXF : Hid (DocX (w8.setCell ⟨g, starts.length, none⟩ (.int .i64 ((T.length : Int) + 1))).drew D (T ++ [93]) S1 (ends ++ ((T.length : Int) + 1) :: E8) pos1 si1 ni1 wi1) :=
            ⟨_, _, hset.carry rfl, hnk8, by rw [HE8.out] at hne8; simpa using hne8⟩
          have HBF : Hid (Below D wr (w8.setCell ⟨g, starts.length, none⟩ (.int .i64 ((T.length : Int) + 1))).drew) := (hBq.setCell (Nat.le_of_lt hDg) _).drew
          have HVP : Hid (ValPost w _ D n out starts ends pos si ni wi) := HA.out.weak.close (.inr rfl) (cl := 93) (.inr rfl) (by omega) (by omega) HE8.out HXF.out HBF.out
          clear hset hd8 hnk8 hne8 HXF HBF hBq HA HE8 g1 g2 g3 g4 g5
          go_region_held3 (fun w' => w'.cell? ⟨D, 0, none⟩ = some (.slice p8.ao (T.length + 1) p8.co) ∧ w'.cell? ⟨D, 2, none⟩ = some (.slice (some ⟨g, 0, none⟩) (starts.length + (E8.length + 1)) cap)) (go_keep) (fail)
          go_wp2
          go_end0
          exact ⟨rfl, HVP.out⟩
        · have hj1 : ((j : Int) == 0) = false := by simp; omega
          clear hmA
          obtain ⟨E8, hE8⟩ := hmD.out.tailE
          have hX8 := hmD.out.doc
          obtain ⟨p404, kinds404, hd, hnkq, hneq⟩ := hX8
          have c0 : wr.cell? ⟨D, 0, none⟩ = some (.slice p404.ao (T).length p404.co) := hd.cell 0
          have hltq := hd.lt
          have HDq := show Hid _ from hd
          clear hd
          go_wp2_with (at_builtin; refine app rfl (.tmp 146) (.tmp 148) rfl D _ _ _ (T) rfl (HDq.out.out.alloc _) ⟨wr.heap.size, 0, none⟩ 1 1 [93] rfl rfl ?c1_404 ?c2_404 ?c3_404 ?c4_404 ?_)
          case c1_404 => intro j hj; match j, hj with | 0, _ => simp [Addr.add]
          case c2_404 => intro y hy; simp at hy; omega
          case c3_404 => omega
          case c4_404 => simp; omega
          intro aq kq wq hbq hgq
          have hdA := HDq.out.grow (Grew.alloc wr (.cells #[.int .u8 93] 5) none)
          have hc0 : wq.cell? ⟨D, 0, none⟩ = some (.slice p404.ao (T).length p404.co) := (hdA.cellG hgq hdA.oD 0).1
          have hf0 := (hdA.cellG hgq hdA.oD 0).2
          have hXq : DocX (wq.setCell ⟨D, 0, none⟩ (.slice aq ((T).length + 1) kq)) D (T ++ [93]) (S1) (E1) (pos1) (si1) (ni1) (wi1) := ⟨_, _, hdA.setOut hgq hbq, hnkq, hneq⟩
          have hBq : Below D wr (wq.setCell ⟨D, 0, none⟩ (.slice aq ((T).length + 1) kq)) := (((Below.refl D wr).alloc (Nat.le_of_lt hltq) _).trans (hgq.below (by simp; omega) (own_base HDq.out.out.own))).setCell (Nat.le_refl _) _
          clear hdA hbq hgq HDq c0 hnkq hneq
          go_upto_region 40 with fail
          generalize hW3 : wq.setCell ⟨D, 0, none⟩ (.slice aq (T.length + 1) kq) = w8 at *
          clear hW3 hc0 hf0
          obtain ⟨p8, kinds8, hd8, hnk8, hne8⟩ := hXq
          have HE8 := show Hid _ from hE8
          rw [hE8] at hd8
          clear hE8
          obtain ⟨g, cap, c2, hcg, hfg, hDg, hset⟩ := hd8.atEnd (e0 := ends) (e1 := E8) ((T.length : Int) + 1)
          rw [HNE.out] at c2 hcg hfg hset
          have c0 : w8.cell? ⟨D, 0, none⟩ = some (.slice p8.ao (T.length + 1) p8.co) := by have := hd8.cell 0; rw [this]; simp [fields]
          have hgD : g ≠ D := by omega
          have b1 : (0 : Int) ≤ (starts.length : Int) := by omega
          have b2 : (starts.length : Int) < (starts.length : Int) + ((E8.length : Int) + 1) := by omega
          have hlg : D < w8.heap.size := hd8.lt
          have HXF : Hid (DocX (w8.setCell ⟨g, starts.length, none⟩ (.int .i64 ((T.length : Int) + 1))).drew D (T ++ [93]) S1 (ends ++ ((T.length : Int) + 1) :: E8) pos1 si1 ni1 wi1) :=
            ⟨_, _, hset.carry rfl, hnk8, by rw [HE8.out] at hne8; simpa using hne8⟩
          have HBF : Hid (Below D wr (w8.setCell ⟨g, starts.length, none⟩ (.int .i64 ((T.length : Int) + 1))).drew) := (hBq.setCell (Nat.le_of_lt hDg) _).drew
          have HVP : Hid (ValPost w _ D n out starts ends pos si ni wi) := hmD.out.close (.inr rfl) (cl := 93) (.inr rfl) (by omega) (by omega) HE8.out HXF.out HBF.out
          clear hset hd8 hnk8 hne8 HXF HBF hBq hmD HE8 g1 g2 g3 g4 g5
          go_region_held3 (fun w' => w'.cell? ⟨D, 0, none⟩ = some (.slice p8.ao (T.length + 1) p8.co) ∧ w'.cell? ⟨D, 2, none⟩ = some (.slice (some ⟨g, 0, none⟩) (starts.length + (E8.length + 1)) cap)) (go_keep) (fail)
          go_wp2
          go_end0
          exact ⟨rfl, HVP.out⟩
    · by_cases hj0 : j = 0
      · have HA := show Hid _ from hmA.out hj0
        subst hj0
        clear hmD hmA
        obtain ⟨E8, hE8⟩ := HA.out.tailE
        have hX8 := HA.out.doc
        obtain ⟨p505, kinds505, hd, hnkq, hneq⟩ := hX8
        have c0 : wr.cell? ⟨D, 0, none⟩ = some (.slice p505.ao (T).length p505.co) := hd.cell 0
        have hltq := hd.lt
        have HDq := show Hid _ from hd
        clear hd
        go_wp2_with (at_builtin; refine app rfl (.tmp 146) (.tmp 148) rfl D _ _ _ (T) rfl (HDq.out.out.alloc _) ⟨wr.heap.size, 0, none⟩ 1 1 [93] rfl rfl ?c1_505 ?c2_505 ?c3_505 ?c4_505 ?_)
        case c1_505 => intro j hj; match j, hj with | 0, _ => simp [Addr.add]
        case c2_505 => intro y hy; simp at hy; omega
        case c3_505 => omega
        case c4_505 => simp; omega
        intro aq kq wq hbq hgq
        have hdA := HDq.out.grow (Grew.alloc wr (.cells #[.int .u8 93] 5) none)
        have hc0 : wq.cell? ⟨D, 0, none⟩ = some (.slice p505.ao (T).length p505.co) := (hdA.cellG hgq hdA.oD 0).1
        have hf0 := (hdA.cellG hgq hdA.oD 0).2
        have hXq : DocX (wq.setCell ⟨D, 0, none⟩ (.slice aq ((T).length + 1) kq)) D (T ++ [93]) (S1) (E1) (pos1) (si1) (ni1) (wi1) := ⟨_, _, hdA.setOut hgq hbq, hnkq, hneq⟩
        have hBq : Below D wr (wq.setCell ⟨D, 0, none⟩ (.slice aq ((T).length + 1) kq)) := (((Below.refl D wr).alloc (Nat.le_of_lt hltq) _).trans (hgq.below (by simp; omega) (own_base HDq.out.out.own))).setCell (Nat.le_refl _) _
        clear hdA hbq hgq HDq c0 hnkq hneq
        go_upto_region 40 with fail
        generalize hW3 : wq.setCell ⟨D, 0, none⟩ (.slice aq (T.length + 1) kq) = w8 at *
        clear hW3 hc0 hf0
        obtain ⟨p8, kinds8, hd8, hnk8, hne8⟩ := hXq
        have HE8 := show Hid _ from hE8
        rw [hE8] at hd8
        clear hE8
        obtain ⟨g, cap, c2, hcg, hfg, hDg, hset⟩ := hd8.atEnd (e0 := ends) (e1 := E8) ((T.length : Int) + 1)
        rw [HNE.out] at c2 hcg hfg hset
        have c0 : w8.cell? ⟨D, 0, none⟩ = some (.slice p8.ao (T.length + 1) p8.co) := by have := hd8.cell 0; rw [this]; simp [fields]
        have hgD : g ≠ D := by omega
        have b1 : (0 : Int) ≤ (starts.length : Int) := by omega
        have b2 : (starts.length : Int) < (starts.length : Int) + ((E8.length : Int) + 1) := by omega
        have hlg : D < w8.heap.size := hd8.lt
        have HXF : Hid (DocX (w8.setCell ⟨g, starts.length, none⟩ (.int .i64 ((T.length : Int) + 1))).drew D (T ++ [93]) S1 (ends ++ ((T.length : Int) + 1) :: E8) pos1 si1 ni1 wi1) :=
          ⟨_, _, hset.carry rfl, hnk8, by rw [HE8.out] at hne8; simpa using hne8⟩
        have HBF : Hid (Below D wr (w8.setCell ⟨g, starts.length, none⟩ (.int .i64 ((T.length : Int) + 1))).drew) := (hBq.setCell (Nat.le_of_lt hDg) _).drew
        have HVP : Hid (ValPost w _ D n out starts ends pos si ni wi) := HA.out.weak.close (.inr rfl) (cl := 93) (.inr rfl) (by omega) (by omega) HE8.out HXF.out HBF.out
        clear hset hd8 hnk8 hne8 HXF HBF hBq HA HE8 g1 g2 g3 g4 g5
        go_region_held3 (fun w' => w'.cell? ⟨D, 0, none⟩ = some (.slice p8.ao (T.length + 1) p8.co) ∧ w'.cell? ⟨D, 2, none⟩ = some (.slice (some ⟨g, 0, none⟩) (starts.length + (E8.length + 1)) cap)) (go_keep) (fail)
        go_wp2
        go_end0
        exact ⟨rfl, HVP.out⟩
      · have hj1 : ((j : Int) == 0) = false := by simp; omega
        clear hmA
        obtain ⟨E8, hE8⟩ := hmD.out.tailE
        have hX8 := hmD.out.doc
        obtain ⟨p606, kinds606, hd, hnkq, hneq⟩ := hX8
        have c0 : wr.cell? ⟨D, 0, none⟩ = some (.slice p606.ao (T).length p606.co) := hd.cell 0
        have hltq := hd.lt
        have HDq := show Hid _ from hd
        clear hd
        go_wp2_with (at_builtin; refine app rfl (.tmp 146) (.tmp 148) rfl D _ _ _ (T) rfl (HDq.out.out.alloc _) ⟨wr.heap.size, 0, none⟩ 1 1 [93] rfl rfl ?c1_606 ?c2_606 ?c3_606 ?c4_606 ?_)
        case c1_606 => intro j hj; match j, hj with | 0, _ => simp [Addr.add]
        case c2_606 => intro y hy; simp at hy; omega
        case c3_606 => omega
        case c4_606 => simp; omega
        intro aq kq wq hbq hgq
        have hdA := HDq.out.grow (Grew.alloc wr (.cells #[.int .u8 93] 5) none)
        have hc0 : wq.cell? ⟨D, 0, none⟩ = some (.slice p606.ao (T).length p606.co) := (hdA.cellG hgq hdA.oD 0).1
        have hf0 := (hdA.cellG hgq hdA.oD 0).2
        have hXq : DocX (wq.setCell ⟨D, 0, none⟩ (.slice aq ((T).length + 1) kq)) D (T ++ [93]) (S1) (E1) (pos1) (si1) (ni1) (wi1) := ⟨_, _, hdA.setOut hgq hbq, hnkq, hneq⟩
        have hBq : Below D wr (wq.setCell ⟨D, 0, none⟩ (.slice aq ((T).length + 1) kq)) := (((Below.refl D wr).alloc (Nat.le_of_lt hltq) _).trans (hgq.below (by simp; omega) (own_base HDq.out.out.own))).setCell (Nat.le_refl _) _
        clear hdA hbq hgq HDq c0 hnkq hneq
        go_upto_region 40 with fail
        generalize hW3 : wq.setCell ⟨D, 0, none⟩ (.slice aq (T.length + 1) kq) = w8 at *
        clear hW3 hc0 hf0
        obtain ⟨p8, kinds8, hd8, hnk8, hne8⟩ := hXq
        have HE8 := show Hid _ from hE8
        rw [hE8] at hd8
        clear hE8
        obtain ⟨g, cap, c2, hcg, hfg, hDg, hset⟩ := hd8.atEnd (e0 := ends) (e1 := E8) ((T.length : Int) + 1)
        rw [HNE.out] at c2 hcg hfg hset
        have c0 : w8.cell? ⟨D, 0, none⟩ = some (.slice p8.ao (T.length + 1) p8.co) := by have := hd8.cell 0; rw [this]; simp [fields]
        have hgD : g ≠ D := by omega
        have b1 : (0 : Int) ≤ (starts.length : Int) := by omega
        have b2 : (starts.length : Int) < (starts.length : Int) + ((E8.length : Int) + 1) := by omega
        have hlg : D < w8.heap.size := hd8.lt
        have HXF : Hid (DocX (w8.setCell ⟨g, starts.length, none⟩ (.int .i64 ((T.length : Int) + 1))).drew D (T ++ [93]) S1 (ends ++ ((T.length : Int) + 1) :: E8) pos1 si1 ni1 wi1) :=
          ⟨_, _, hset.carry rfl, hnk8, by rw [HE8.out] at hne8; simpa using hne8⟩
        have HBF : Hid (Below D wr (w8.setCell ⟨g, starts.length, none⟩ (.int .i64 ((T.length : Int) + 1))).drew) := (hBq.setCell (Nat.le_of_lt hDg) _).drew
        have HVP : Hid (ValPost w _ D n out starts ends pos si ni wi) := hmD.out.close (.inr rfl) (cl := 93) (.inr rfl) (by omega) (by omega) HE8.out HXF.out HBF.out
        clear hset hd8 hnk8 hne8 HXF HBF hBq hmD HE8 g1 g2 g3 g4 g5
        go_region_held3 (fun w' => w'.cell? ⟨D, 0, none⟩ = some (.slice p8.ao (T.length + 1) p8.co) ∧ w'.cell? ⟨D, 2, none⟩ = some (.slice (some ⟨g, 0, none⟩) (starts.length + (E8.length + 1)) cap)) (go_keep) (fail)
        go_wp2
        go_end0
        exact ⟨rfl, HVP.out⟩

end Go.Proofs.Qxb6600588a.Base
