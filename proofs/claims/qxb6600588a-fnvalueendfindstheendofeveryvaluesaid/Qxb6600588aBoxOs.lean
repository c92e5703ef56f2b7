import Derived.Test.Qxb6600588aMid
namespace Go.Proofs.Qxb6600588a.Base
open Go.RowKit
set_option linter.unusedVariables false
set_option linter.unusedSimpArgs false

set_option maxRecDepth 100000 in
set_option maxHeartbeats 3200000 in
theorem val_obj_sp (W w : World) (D : Nat) (a : Option Addr) (n ca : Nat) (xs : List Int) (b : Option Addr) (m cb : Nat) (ss : List ByteArray) (c : Option Addr) (q cc : Nat) (out starts ends : List Int) (pos si ni wi : Nat)
    (hc : Came W D a n xs b m ss c q) (hB : Below D W w) (h : DocX w D out starts ends pos si ni wi) (hf : Fit n out.length starts.length pos si ni wi) (hp : pos < n)
    (x : Int) (hx0 : 0 ≤ x) (hx1 : x < 256) (ad : Nat) (off : Nat) (ha : a = some ⟨ad, off, none⟩) (had : ad < D) (hcx : w.cell? ⟨ad, off + pos, none⟩ = some (.int .u8 x)) (e0 : x % 8 = 5) (hsp : (bits BinOp.and IntKind.u8 (x / 32) 1 == 1) = true)
    (ih : ∀ (w : World) (T S' E' : List Int) (pos2 si ni wi : Nat), pos < pos2 → pos2 < n → Below D W w → DocX w D T S' E' pos2 si ni wi → Fit n T.length S'.length pos2 si ni wi → ValSaid W D a n ca b m cb c q cc w T S' E' pos2 si ni wi) :
    ValSaid W D a n ca b m cb c q cc w out starts ends pos si ni wi := by
  unfold ValSaid
  obtain ⟨hf1, hf2, hf3, hf4, hf5⟩ := hf
  have hlim := hc.lim
  obtain ⟨p, kinds, hd, hnk, hne⟩ := h
  have c4 : w.cell? ⟨D, 4, none⟩ = some (.int .i64 pos) := hd.cell 4
  have f4 := hd.frozen 4
  have hX : DocX (w.setCell ⟨D, 4, none⟩ (.int .i64 ((pos : Int) + 1))) D out starts ends (pos + 1) si ni wi := ⟨p, kinds, hd.setPos (pos + 1), hnk, hne⟩
  have hB1 : Below D w (w.setCell ⟨D, 4, none⟩ (.int .i64 ((pos : Int) + 1))) := (Below.refl D w).setCell (Nat.le_refl _) _
  have hBW := hB.trans hB1
  have HC := show Hid _ from hc
  clear hd hc
  have hnp : decide (n ≤ pos) = false := by simp; omega
  have t0 : (x % 8 == 0) = false := by simp; omega
  have t1 : (x % 8 == 1) = false := by simp; omega
  have t2 : (x % 8 == 2) = false := by simp; omega
  have t3 : (x % 8 == 3) = false := by simp; omega
  have t4 : (x % 8 == 4) = false := by simp; omega
  have t5 : (x % 8 == 5) = true := by simp; omega
  have t7 : (x % 8 == 7) = false := by simp; omega
  clear e0
  have opn := open_any _ D 0 out starts ends (pos + 1) si ni wi (by omega) hX (by omega) (by omega)
  have HIH := show Hid _ from ih
  have HF : Hid (Fit n out.length starts.length pos si ni wi) := ⟨hf1, hf2, hf3, hf4, hf5⟩
  have HBW0 := show Hid _ from hB
  have HNE : Hid (ends.length = starts.length) := hne
  clear ih hX hne hnk
  subst ha
  go_enter Try.func9, Try.ntmps9
  go_wp2_with fail
  refine opn.mono ?_
  rintro e w1 ⟨rfl, hX1, hB2⟩
  have HB1 := show Hid _ from hB1.trans hB2
  clear opn hB1 hB2 hBW hcx c4 f4
  obtain ⟨p1, kinds1, hd, hnkq, hneq⟩ := hX1
  have c0 : w1.cell? ⟨D, 0, none⟩ = some (.slice p1.ao (out).length p1.co) := hd.cell 0
  have hltq := hd.lt
  have HDq := show Hid _ from hd
  clear hd
  go_wp2_with (at_builtin; refine app rfl (.tmp 67) (.tmp 69) rfl D _ _ _ (out) rfl (HDq.out.out.alloc _) ⟨w1.heap.size, 0, none⟩ 1 1 [123] rfl rfl ?c1_1 ?c2_1 ?c3_1 ?c4_1 ?_)
  case c1_1 => intro j hj; match j, hj with | 0, _ => simp [Addr.add]
  case c2_1 => intro y hy; simp at hy; omega
  case c3_1 => omega
  case c4_1 => simp; omega
  intro aq kq wq hbq hgq
  have hdA := HDq.out.grow (Grew.alloc w1 (.cells #[.int .u8 123] 5) none)
  have hc0 : wq.cell? ⟨D, 0, none⟩ = some (.slice p1.ao (out).length p1.co) := (hdA.cellG hgq hdA.oD 0).1
  have hf0 := (hdA.cellG hgq hdA.oD 0).2
  have hXq : DocX (wq.setCell ⟨D, 0, none⟩ (.slice aq ((out).length + 1) kq)) D (out ++ [123]) (starts ++ [(out.length : Int)]) (ends ++ [(out.length : Int)]) (pos + 1) (si) (ni) (wi) := ⟨_, _, hdA.setOut hgq hbq, hnkq, hneq⟩
  have hBq : Below D w1 (wq.setCell ⟨D, 0, none⟩ (.slice aq ((out).length + 1) kq)) := (((Below.refl D w1).alloc (Nat.le_of_lt hltq) _).trans (hgq.below (by simp; omega) (own_base HDq.out.out.own))).setCell (Nat.le_refl _) _
  clear hdA hbq hgq HDq c0 hnkq hneq
  have HM0 := show Hid _ from mid_start hXq (HB1.out.trans hBq) hp
  clear hXq hBq HB1
  go_upto_region 17 with fail
  generalize hW3 : wq.setCell ⟨D, 0, none⟩ (.slice aq (out.length + 1) kq) = w2 at *
  clear hW3 hc0 hf0
  have hcn0 : 0 ≤ x / 8 % 4 ∧ x / 8 % 4 ≤ 3 := by omega
  go_wp2_with fail
  generalize x / 8 % 4 = cnt at *
  obtain ⟨cn, rfl⟩ := Int.eq_ofNat_of_zero_le hcn0.1
  have hcn3 : cn ≤ 3 := by omega
  generalize bits BinOp.or IntKind.u8 (x / 64) (bits BinOp.and IntKind.u8 (x / 2) 12) = km at *
  clear hcn0 t0 t1 t2 t3 t4 t5 t7 hsp hnp hx0 hx1
  go_loopw [19, 20] (fun wn ji wr => ∃ (j : Nat) (T S1 E1 : List Int) (pos1 si1 ni1 wi1 : Nat), wn = .int .i64 j ∧ ji = .int .i64 j ∧ j ≤ cn ∧ Hid (Mid w wr D n out starts ends pos si ni wi 123 Dl T S1 E1 pos1 si1 ni1 wi1 0 0) ∧ Hid (j = 0 → Mid w wr D n out starts ends pos si ni wi 123 AnyT T S1 E1 pos1 si1 ni1 wi1 0 0)) (fun _ ji _ => cn - (intOf ji).toNat)
  case atStart => exact ⟨0, _, _, _, _, _, _, _, rfl, rfl, Nat.zero_le _, HM0.out.weak, fun _ => HM0.out⟩
  case round =>
    obtain ⟨j, T, S1, E1, pos1, si1, ni1, wi1, rfl, rfl, hj, hmD, hmA⟩ := hrel
    clear HM0
    obtain ⟨g1, g2, g3, g4, g5⟩ := hmD.out.fit (by omega) (by omega) HF.out
    have c4 : wr.cell? ⟨D, 4, none⟩ = some (.int .i64 pos1) := hmD.out.doc.choose_spec.choose_spec.1.cell 4
    have hlo := hmD.out.lo
    have hhi := hmD.out.hi
    by_cases hjc : j < cn
    · by_cases hpn : pos1 < n
      · by_cases hj0 : j = 0
        · have HA := show Hid _ from hmA.out hj0
          subst hj0
          clear hmD hmA
          go_wp2_with fail
          refine (ws_any _ D T S1 E1 pos1 si1 ni1 wi1 HA.out.doc (by omega) (by omega)).mono ?_
          rintro e wa1 ⟨rfl, ch, hch, hX9, hB9⟩
          have Ha1 := show Hid _ from HA.out.char (wsb_neutral hch).1 hX9 hB9 (Nat.le_refl _)
          clear hX9 hB9 HA g1 g2 g3 g4 g5
          generalize T ++ [ch] = Ta1 at *
          generalize wi1 + 1 = wia1 at *
          clear hch
          obtain ⟨g1, g2, g3, g4, g5⟩ := Ha1.out.fit (by omega) (by omega) HF.out
          go_wp2_with fail
          refine (str_any HC.out _ cb _ Ta1 S1 E1 pos1 si1 ni1 wia1 (HBW0.out.trans Ha1.out.below) Ha1.out.doc (by omega) (by omega) (by omega)).mono ?_
          rintro e wa2 ⟨rfl, kb, okb, leb, hX9, hB9⟩
          have Ha2 := show Hid _ from Ha1.out.key okb leb hX9 hB9
          clear hX9 hB9 Ha1 g1 g2 g3 g4 g5 okb leb
          generalize Ta1 ++ 34 :: (kb ++ [34]) = Ta2 at *
          generalize E1 ++ [(Ta1.length : Int) + ((kb.length : Int) + 2)] = Ea2 at *
          generalize S1 ++ [(Ta1.length : Int)] = Sa2 at *
          generalize si1 + 1 = sia2 at *
          obtain ⟨g1, g2, g3, g4, g5⟩ := Ha2.out.fit (by omega) (by omega) HF.out
          go_wp2_with fail
          refine (ws_any _ D Ta2 Sa2 Ea2 pos1 sia2 ni1 wia1 Ha2.out.doc (by omega) (by omega)).mono ?_
          rintro e wa3 ⟨rfl, ch, hch, hX9, hB9⟩
          have Ha3 := show Hid _ from Ha2.out.char (wsb_neutral hch).1 hX9 hB9 (Nat.le_refl _)
          clear hX9 hB9 Ha2 g1 g2 g3 g4 g5
          generalize Ta2 ++ [ch] = Ta3 at *
          generalize wia1 + 1 = wia3 at *
          clear hch
          obtain ⟨g1, g2, g3, g4, g5⟩ := Ha3.out.fit (by omega) (by omega) HF.out
          have hX8 := Ha3.out.doc
          obtain ⟨p102, kinds102, hd, hnkq, hneq⟩ := hX8
          have c0 : wa3.cell? ⟨D, 0, none⟩ = some (.slice p102.ao (Ta3).length p102.co) := hd.cell 0
          have hltq := hd.lt
          have HDq := show Hid _ from hd
          clear hd
          go_wp2_with (at_builtin; refine app rfl (.tmp 117) (.tmp 118) rfl D _ _ _ (Ta3) rfl (HDq.out.out.alloc _) ⟨wa3.heap.size, 0, none⟩ 1 1 [58] rfl rfl ?c1_102 ?c2_102 ?c3_102 ?c4_102 ?_)
          case c1_102 => intro j hj; match j, hj with | 0, _ => simp [Addr.add]
          case c2_102 => intro y hy; simp at hy; omega
          case c3_102 => omega
          case c4_102 => simp; omega
          intro aq kq wq hbq hgq
          have hdA := HDq.out.grow (Grew.alloc wa3 (.cells #[.int .u8 58] 5) none)
          have hc0 : wq.cell? ⟨D, 0, none⟩ = some (.slice p102.ao (Ta3).length p102.co) := (hdA.cellG hgq hdA.oD 0).1
          have hf0 := (hdA.cellG hgq hdA.oD 0).2
          have hXq : DocX (wq.setCell ⟨D, 0, none⟩ (.slice aq ((Ta3).length + 1) kq)) D (Ta3 ++ [58]) (Sa2) (Ea2) (pos1) (sia2) (ni1) (wia3) := ⟨_, _, hdA.setOut hgq hbq, hnkq, hneq⟩
          have hBq : Below D wa3 (wq.setCell ⟨D, 0, none⟩ (.slice aq ((Ta3).length + 1) kq)) := (((Below.refl D wa3).alloc (Nat.le_of_lt hltq) _).trans (hgq.below (by simp; omega) (own_base HDq.out.out.own))).setCell (Nat.le_refl _) _
          clear hdA hbq hgq HDq c0 hnkq hneq
          have Ha4 := show Hid _ from Ha3.out.char neutral_colon hXq hBq (Nat.le_succ _)
          clear hXq hBq Ha3 g1 g2 g3 g4 g5
          go_upto_region 31 with fail
          generalize hW3 : wq.setCell ⟨D, 0, none⟩ (.slice aq (Ta3.length + 1) kq) = wa4 at *
          clear hW3 hc0 hf0
          generalize Ta3 ++ [58] = Ta4 at *
          obtain ⟨g1, g2, g3, g4, g5⟩ := Ha4.out.fit (by omega) (by omega) HF.out
          go_wp2_with fail
          refine (ws_any _ D Ta4 Sa2 Ea2 pos1 sia2 ni1 wia3 Ha4.out.doc (by omega) (by omega)).mono ?_
          rintro e wa5 ⟨rfl, ch, hch, hX9, hB9⟩
          have Ha5 := show Hid _ from Ha4.out.char (wsb_neutral hch).1 hX9 hB9 (Nat.le_refl _)
          clear hX9 hB9 Ha4 g1 g2 g3 g4 g5
          generalize Ta4 ++ [ch] = Ta5 at *
          generalize wia3 + 1 = wia5 at *
          clear hch
          obtain ⟨g1, g2, g3, g4, g5⟩ := Ha5.out.fit (by omega) (by omega) HF.out
          go_wp2_with fail
          have q9 := HIH.out wa5 Ta5 Sa2 Ea2 pos1 sia2 ni1 wia5 hlo hpn (HBW0.out.trans Ha5.out.below) Ha5.out.doc (Ha5.out.fit (by omega) (by omega) HF.out)
          unfold ValSaid at q9
          refine q9.mono ?_
          rintro e wv ⟨rfl, hv⟩
          obtain ⟨T9, S9, E9, pos9, si9, ni9, wi9, hm9, _, hpp, hws⟩ := Ha5.out.val (by omega) (by omega) hv
          have HM9 := show Hid _ from hm9
          have HWS := show Hid _ from hws
          clear q9 hv hm9 hws Ha5 c4 g1 g2 g3 g4 g5
          obtain ⟨g1, g2, g3, g4, g5⟩ := HM9.out.fit (by omega) (by omega) HF.out
          go_wp2_with fail
          refine (ws_any _ D T9 S9 E9 pos9 si9 ni9 wi9 HM9.out.doc (by omega) (by omega)).mono ?_
          rintro e wz ⟨rfl, ch, hch, hX9, hB9⟩
          have HMZ := show Hid _ from HWS.out wz ch (wi9 + 1) (wsb_neutral hch).1 (wsb_neutral hch).2 hX9 hB9 (Nat.le_refl _)
          clear hX9 hB9 HM9 HWS g1 g2 g3 g4 g5 hch
          go_wp2
          go_roundw
          case rel => exact ⟨0 + 1, _, _, _, _, _, _, _, by go_num, by go_num, by omega, HMZ, fun h => by omega⟩
          case measure => simp [intOf]; omega
        · have hj1 : 0 < j := by omega
          clear hmA
          have hX8 := hmD.out.doc
          obtain ⟨p203, kinds203, hd, hnkq, hneq⟩ := hX8
          have c0 : wr.cell? ⟨D, 0, none⟩ = some (.slice p203.ao (T).length p203.co) := hd.cell 0
          have hltq := hd.lt
          have HDq := show Hid _ from hd
          clear hd
          go_wp2_with (at_builtin; refine app rfl (.tmp 97) (.tmp 98) rfl D _ _ _ (T) rfl (HDq.out.out.alloc _) ⟨wr.heap.size, 0, none⟩ 1 1 [44] rfl rfl ?c1_203 ?c2_203 ?c3_203 ?c4_203 ?_)
          case c1_203 => intro j hj; match j, hj with | 0, _ => simp [Addr.add]
          case c2_203 => intro y hy; simp at hy; omega
          case c3_203 => omega
          case c4_203 => simp; omega
          intro aq kq wq hbq hgq
          have hdA := HDq.out.grow (Grew.alloc wr (.cells #[.int .u8 44] 5) none)
          have hc0 : wq.cell? ⟨D, 0, none⟩ = some (.slice p203.ao (T).length p203.co) := (hdA.cellG hgq hdA.oD 0).1
          have hf0 := (hdA.cellG hgq hdA.oD 0).2
          have hXq : DocX (wq.setCell ⟨D, 0, none⟩ (.slice aq ((T).length + 1) kq)) D (T ++ [44]) (S1) (E1) (pos1) (si1) (ni1) (wi1) := ⟨_, _, hdA.setOut hgq hbq, hnkq, hneq⟩
          have hBq : Below D wr (wq.setCell ⟨D, 0, none⟩ (.slice aq ((T).length + 1) kq)) := (((Below.refl D wr).alloc (Nat.le_of_lt hltq) _).trans (hgq.below (by simp; omega) (own_base HDq.out.out.own))).setCell (Nat.le_refl _) _
          clear hdA hbq hgq HDq c0 hnkq hneq
          have Hb0 := show Hid _ from hmD.out.delim neutral_comma rfl hXq hBq (Nat.le_succ _)
          clear hXq hBq hmD g1 g2 g3 g4 g5
          go_upto_region 24 with fail
          generalize hW3 : wq.setCell ⟨D, 0, none⟩ (.slice aq (T.length + 1) kq) = wb0 at *
          clear hW3 hc0 hf0
          generalize T ++ [44] = Tb0 at *
          obtain ⟨g1, g2, g3, g4, g5⟩ := Hb0.out.fit (by omega) (by omega) HF.out
          go_wp2_with fail
          refine (ws_any _ D Tb0 S1 E1 pos1 si1 ni1 wi1 Hb0.out.doc (by omega) (by omega)).mono ?_
          rintro e wb1 ⟨rfl, ch, hch, hX9, hB9⟩
          have Hb1 := show Hid _ from Hb0.out.char (wsb_neutral hch).1 hX9 hB9 (Nat.le_refl _)
          clear hX9 hB9 Hb0 g1 g2 g3 g4 g5
          generalize Tb0 ++ [ch] = Tb1 at *
          generalize wi1 + 1 = wib1 at *
          clear hch
          obtain ⟨g1, g2, g3, g4, g5⟩ := Hb1.out.fit (by omega) (by omega) HF.out
          go_wp2_with fail
          refine (str_any HC.out _ cb _ Tb1 S1 E1 pos1 si1 ni1 wib1 (HBW0.out.trans Hb1.out.below) Hb1.out.doc (by omega) (by omega) (by omega)).mono ?_
          rintro e wb2 ⟨rfl, kb, okb, leb, hX9, hB9⟩
          have Hb2 := show Hid _ from Hb1.out.key okb leb hX9 hB9
          clear hX9 hB9 Hb1 g1 g2 g3 g4 g5 okb leb
          generalize Tb1 ++ 34 :: (kb ++ [34]) = Tb2 at *
          generalize E1 ++ [(Tb1.length : Int) + ((kb.length : Int) + 2)] = Eb2 at *
          generalize S1 ++ [(Tb1.length : Int)] = Sb2 at *
          generalize si1 + 1 = sib2 at *
          obtain ⟨g1, g2, g3, g4, g5⟩ := Hb2.out.fit (by omega) (by omega) HF.out
          go_wp2_with fail
          refine (ws_any _ D Tb2 Sb2 Eb2 pos1 sib2 ni1 wib1 Hb2.out.doc (by omega) (by omega)).mono ?_
          rintro e wb3 ⟨rfl, ch, hch, hX9, hB9⟩
          have Hb3 := show Hid _ from Hb2.out.char (wsb_neutral hch).1 hX9 hB9 (Nat.le_refl _)
          clear hX9 hB9 Hb2 g1 g2 g3 g4 g5
          generalize Tb2 ++ [ch] = Tb3 at *
          generalize wib1 + 1 = wib3 at *
          clear hch
          obtain ⟨g1, g2, g3, g4, g5⟩ := Hb3.out.fit (by omega) (by omega) HF.out
          have hX8 := Hb3.out.doc
          obtain ⟨p204, kinds204, hd, hnkq, hneq⟩ := hX8
          have c0 : wb3.cell? ⟨D, 0, none⟩ = some (.slice p204.ao (Tb3).length p204.co) := hd.cell 0
          have hltq := hd.lt
          have HDq := show Hid _ from hd
          clear hd
          go_wp2_with (at_builtin; refine app rfl (.tmp 117) (.tmp 118) rfl D _ _ _ (Tb3) rfl (HDq.out.out.alloc _) ⟨wb3.heap.size, 0, none⟩ 1 1 [58] rfl rfl ?c1_204 ?c2_204 ?c3_204 ?c4_204 ?_)
          case c1_204 => intro j hj; match j, hj with | 0, _ => simp [Addr.add]
          case c2_204 => intro y hy; simp at hy; omega
          case c3_204 => omega
          case c4_204 => simp; omega
          intro aq kq wq hbq hgq
          have hdA := HDq.out.grow (Grew.alloc wb3 (.cells #[.int .u8 58] 5) none)
          have hc0 : wq.cell? ⟨D, 0, none⟩ = some (.slice p204.ao (Tb3).length p204.co) := (hdA.cellG hgq hdA.oD 0).1
          have hf0 := (hdA.cellG hgq hdA.oD 0).2
          have hXq : DocX (wq.setCell ⟨D, 0, none⟩ (.slice aq ((Tb3).length + 1) kq)) D (Tb3 ++ [58]) (Sb2) (Eb2) (pos1) (sib2) (ni1) (wib3) := ⟨_, _, hdA.setOut hgq hbq, hnkq, hneq⟩
          have hBq : Below D wb3 (wq.setCell ⟨D, 0, none⟩ (.slice aq ((Tb3).length + 1) kq)) := (((Below.refl D wb3).alloc (Nat.le_of_lt hltq) _).trans (hgq.below (by simp; omega) (own_base HDq.out.out.own))).setCell (Nat.le_refl _) _
          clear hdA hbq hgq HDq c0 hnkq hneq
          have Hb4 := show Hid _ from Hb3.out.char neutral_colon hXq hBq (Nat.le_succ _)
          clear hXq hBq Hb3 g1 g2 g3 g4 g5
          go_upto_region 31 with fail
          generalize hW3 : wq.setCell ⟨D, 0, none⟩ (.slice aq (Tb3.length + 1) kq) = wb4 at *
          clear hW3 hc0 hf0
          generalize Tb3 ++ [58] = Tb4 at *
          obtain ⟨g1, g2, g3, g4, g5⟩ := Hb4.out.fit (by omega) (by omega) HF.out
          go_wp2_with fail
          refine (ws_any _ D Tb4 Sb2 Eb2 pos1 sib2 ni1 wib3 Hb4.out.doc (by omega) (by omega)).mono ?_
          rintro e wb5 ⟨rfl, ch, hch, hX9, hB9⟩
          have Hb5 := show Hid _ from Hb4.out.char (wsb_neutral hch).1 hX9 hB9 (Nat.le_refl _)
          clear hX9 hB9 Hb4 g1 g2 g3 g4 g5
          generalize Tb4 ++ [ch] = Tb5 at *
          generalize wib3 + 1 = wib5 at *
          clear hch
          obtain ⟨g1, g2, g3, g4, g5⟩ := Hb5.out.fit (by omega) (by omega) HF.out
          go_wp2_with fail
          have q9 := HIH.out wb5 Tb5 Sb2 Eb2 pos1 sib2 ni1 wib5 hlo hpn (HBW0.out.trans Hb5.out.below) Hb5.out.doc (Hb5.out.fit (by omega) (by omega) HF.out)
          unfold ValSaid at q9
          refine q9.mono ?_
          rintro e wv ⟨rfl, hv⟩
          obtain ⟨T9, S9, E9, pos9, si9, ni9, wi9, hm9, _, hpp, hws⟩ := Hb5.out.val (by omega) (by omega) hv
          have HM9 := show Hid _ from hm9
          have HWS := show Hid _ from hws
          clear q9 hv hm9 hws Hb5 c4 g1 g2 g3 g4 g5
          obtain ⟨g1, g2, g3, g4, g5⟩ := HM9.out.fit (by omega) (by omega) HF.out
          go_wp2_with fail
          refine (ws_any _ D T9 S9 E9 pos9 si9 ni9 wi9 HM9.out.doc (by omega) (by omega)).mono ?_
          rintro e wz ⟨rfl, ch, hch, hX9, hB9⟩
          have HMZ := show Hid _ from HWS.out wz ch (wi9 + 1) (wsb_neutral hch).1 (wsb_neutral hch).2 hX9 hB9 (Nat.le_refl _)
          clear hX9 hB9 HM9 HWS g1 g2 g3 g4 g5 hch
          go_wp2
          go_roundw
          case rel => exact ⟨j + 1, _, _, _, _, _, _, _, by go_num, by go_num, by omega, HMZ, fun h => by omega⟩
          case measure => simp [intOf]; omega
      · by_cases hj0 : j = 0
        · have HA := show Hid _ from hmA.out hj0
          subst hj0
          clear hmD hmA
          go_wp2_with fail
          refine (ws_any _ D T S1 E1 pos1 si1 ni1 wi1 HA.out.doc (by omega) (by omega)).mono ?_
          rintro e wxa ⟨rfl, ch, hch, hX9, hB9⟩
          have Hxa := show Hid _ from HA.out.char (wsb_neutral hch).1 hX9 hB9 (Nat.le_refl _)
          clear hX9 hB9 HA g1 g2 g3 g4 g5
          generalize T ++ [ch] = Txa at *
          generalize wi1 + 1 = wixa at *
          clear hch
          obtain ⟨g1, g2, g3, g4, g5⟩ := Hxa.out.fit (by omega) (by omega) HF.out
          obtain ⟨E8, hE8⟩ := Hxa.out.tailE
          have hX8 := Hxa.out.doc
          obtain ⟨p305, kinds305, hd, hnkq, hneq⟩ := hX8
          have c0 : wxa.cell? ⟨D, 0, none⟩ = some (.slice p305.ao (Txa).length p305.co) := hd.cell 0
          have hltq := hd.lt
          have HDq := show Hid _ from hd
          clear hd
          go_wp2_with (at_builtin; refine app rfl (.tmp 146) (.tmp 148) rfl D _ _ _ (Txa) rfl (HDq.out.out.alloc _) ⟨wxa.heap.size, 0, none⟩ 1 1 [125] rfl rfl ?c1_305 ?c2_305 ?c3_305 ?c4_305 ?_)
          case c1_305 => intro j hj; match j, hj with | 0, _ => simp [Addr.add]
          case c2_305 => intro y hy; simp at hy; omega
          case c3_305 => omega
          case c4_305 => simp; omega
          intro aq kq wq hbq hgq
          have hdA := HDq.out.grow (Grew.alloc wxa (.cells #[.int .u8 125] 5) none)
          have hc0 : wq.cell? ⟨D, 0, none⟩ = some (.slice p305.ao (Txa).length p305.co) := (hdA.cellG hgq hdA.oD 0).1
          have hf0 := (hdA.cellG hgq hdA.oD 0).2
          have hXq : DocX (wq.setCell ⟨D, 0, none⟩ (.slice aq ((Txa).length + 1) kq)) D (Txa ++ [125]) (S1) (E1) (pos1) (si1) (ni1) (wixa) := ⟨_, _, hdA.setOut hgq hbq, hnkq, hneq⟩
          have hBq : Below D wxa (wq.setCell ⟨D, 0, none⟩ (.slice aq ((Txa).length + 1) kq)) := (((Below.refl D wxa).alloc (Nat.le_of_lt hltq) _).trans (hgq.below (by simp; omega) (own_base HDq.out.out.own))).setCell (Nat.le_refl _) _
          clear hdA hbq hgq HDq c0 hnkq hneq
          go_upto_region 40 with fail
          generalize hW3 : wq.setCell ⟨D, 0, none⟩ (.slice aq (Txa.length + 1) kq) = w8 at *
          clear hW3 hc0 hf0
          obtain ⟨p8, kinds8, hd8, hnk8, hne8⟩ := hXq
          have HE8 := show Hid _ from hE8
          rw [hE8] at hd8
          clear hE8
          obtain ⟨g, cap, c2, hcg, hfg, hDg, hset⟩ := hd8.atEnd (e0 := ends) (e1 := E8) ((Txa.length : Int) + 1)
          rw [HNE.out] at c2 hcg hfg hset
          have c0 : w8.cell? ⟨D, 0, none⟩ = some (.slice p8.ao (Txa.length + 1) p8.co) := by have := hd8.cell 0; rw [this]; simp [fields]
          have hgD : g ≠ D := by omega
          have b1 : (0 : Int) ≤ (starts.length : Int) := by omega
          have b2 : (starts.length : Int) < (starts.length : Int) + ((E8.length : Int) + 1) := by omega
          have hlg : D < w8.heap.size := hd8.lt
          have HXF : Hid (DocX (w8.setCell ⟨g, starts.length, none⟩ (.int .i64 ((Txa.length : Int) + 1))).drew D (Txa ++ [125]) S1 (ends ++ ((Txa.length : Int) + 1) :: E8) pos1 si1 ni1 wixa) :=
            ⟨_, _, hset.carry rfl, hnk8, by rw [HE8.out] at hne8; simpa using hne8⟩
          have HBF : Hid (Below D wxa (w8.setCell ⟨g, starts.length, none⟩ (.int .i64 ((Txa.length : Int) + 1))).drew) := (hBq.setCell (Nat.le_of_lt hDg) _).drew
          have HVP : Hid (ValPost w _ D n out starts ends pos si ni wi) := Hxa.out.weak.close (.inl rfl) (cl := 125) (.inl rfl) (by omega) (by omega) HE8.out HXF.out HBF.out
          clear hset hd8 hnk8 hne8 HXF HBF hBq Hxa HE8 g1 g2 g3 g4 g5
          go_region_held3 (fun w' => w'.cell? ⟨D, 0, none⟩ = some (.slice p8.ao (Txa.length + 1) p8.co) ∧ w'.cell? ⟨D, 2, none⟩ = some (.slice (some ⟨g, 0, none⟩) (starts.length + (E8.length + 1)) cap)) (go_keep) (fail)
          go_wp2
          go_end0
          exact ⟨rfl, HVP.out⟩
        · have hj1 : ((j : Int) == 0) = false := by simp; omega
          clear hmA
          obtain ⟨E8, hE8⟩ := hmD.out.tailE
          have hX8 := hmD.out.doc
          obtain ⟨p406, kinds406, hd, hnkq, hneq⟩ := hX8
          have c0 : wr.cell? ⟨D, 0, none⟩ = some (.slice p406.ao (T).length p406.co) := hd.cell 0
          have hltq := hd.lt
          have HDq := show Hid _ from hd
          clear hd
          go_wp2_with (at_builtin; refine app rfl (.tmp 146) (.tmp 148) rfl D _ _ _ (T) rfl (HDq.out.out.alloc _) ⟨wr.heap.size, 0, none⟩ 1 1 [125] rfl rfl ?c1_406 ?c2_406 ?c3_406 ?c4_406 ?_)
          case c1_406 => intro j hj; match j, hj with | 0, _ => simp [Addr.add]
          case c2_406 => intro y hy; simp at hy; omega
          case c3_406 => omega
          case c4_406 => simp; omega
          intro aq kq wq hbq hgq
          have hdA := HDq.out.grow (Grew.alloc wr (.cells #[.int .u8 125] 5) none)
          have hc0 : wq.cell? ⟨D, 0, none⟩ = some (.slice p406.ao (T).length p406.co) := (hdA.cellG hgq hdA.oD 0).1
          have hf0 := (hdA.cellG hgq hdA.oD 0).2
          have hXq : DocX (wq.setCell ⟨D, 0, none⟩ (.slice aq ((T).length + 1) kq)) D (T ++ [125]) (S1) (E1) (pos1) (si1) (ni1) (wi1) := ⟨_, _, hdA.setOut hgq hbq, hnkq, hneq⟩
          have hBq : Below D wr (wq.setCell ⟨D, 0, none⟩ (.slice aq ((T).length + 1) kq)) := (((Below.refl D wr).alloc (Nat.le_of_lt hltq) _).trans (hgq.below (by simp; omega) (own_base HDq.out.out.own))).setCell (Nat.le_refl _) _
          clear hdA hbq hgq HDq c0 hnkq hneq
          go_upto_region 40 with fail
          generalize hW3 : wq.setCell ⟨D, 0, none⟩ (.slice aq (T.length + 1) kq) = w8 at *
          clear hW3 hc0 hf0
          obtain ⟨p8, kinds8, hd8, hnk8, hne8⟩ := hXq
          have HE8 := show Hid _ from hE8
          rw [hE8] at hd8
          clear hE8
          obtain ⟨g, cap, c2, hcg, hfg, hDg, hset⟩ := hd8.atEnd (e0 := ends) (e1 := E8) ((T.length : Int) + 1)
          rw [HNE.out] at c2 hcg hfg hset
          have c0 : w8.cell? ⟨D, 0, none⟩ = some (.slice p8.ao (T.length + 1) p8.co) := by have := hd8.cell 0; rw [this]; simp [fields]
          have hgD : g ≠ D := by omega
          have b1 : (0 : Int) ≤ (starts.length : Int) := by omega
          have b2 : (starts.length : Int) < (starts.length : Int) + ((E8.length : Int) + 1) := by omega
          have hlg : D < w8.heap.size := hd8.lt
          have HXF : Hid (DocX (w8.setCell ⟨g, starts.length, none⟩ (.int .i64 ((T.length : Int) + 1))).drew D (T ++ [125]) S1 (ends ++ ((T.length : Int) + 1) :: E8) pos1 si1 ni1 wi1) :=
            ⟨_, _, hset.carry rfl, hnk8, by rw [HE8.out] at hne8; simpa using hne8⟩
          have HBF : Hid (Below D wr (w8.setCell ⟨g, starts.length, none⟩ (.int .i64 ((T.length : Int) + 1))).drew) := (hBq.setCell (Nat.le_of_lt hDg) _).drew
          have HVP : Hid (ValPost w _ D n out starts ends pos si ni wi) := hmD.out.close (.inl rfl) (cl := 125) (.inl rfl) (by omega) (by omega) HE8.out HXF.out HBF.out
          clear hset hd8 hnk8 hne8 HXF HBF hBq hmD HE8 g1 g2 g3 g4 g5
          go_region_held3 (fun w' => w'.cell? ⟨D, 0, none⟩ = some (.slice p8.ao (T.length + 1) p8.co) ∧ w'.cell? ⟨D, 2, none⟩ = some (.slice (some ⟨g, 0, none⟩) (starts.length + (E8.length + 1)) cap)) (go_keep) (fail)
          go_wp2
          go_end0
          exact ⟨rfl, HVP.out⟩
    · by_cases hj0 : j = 0
      · have HA := show Hid _ from hmA.out hj0
        subst hj0
        clear hmD hmA
        go_wp2_with fail
        refine (ws_any _ D T S1 E1 pos1 si1 ni1 wi1 HA.out.doc (by omega) (by omega)).mono ?_
        rintro e wxc ⟨rfl, ch, hch, hX9, hB9⟩
        have Hxc := show Hid _ from HA.out.char (wsb_neutral hch).1 hX9 hB9 (Nat.le_refl _)
        clear hX9 hB9 HA g1 g2 g3 g4 g5
        generalize T ++ [ch] = Txc at *
        generalize wi1 + 1 = wixc at *
        clear hch
        obtain ⟨g1, g2, g3, g4, g5⟩ := Hxc.out.fit (by omega) (by omega) HF.out
        obtain ⟨E8, hE8⟩ := Hxc.out.tailE
        have hX8 := Hxc.out.doc
        obtain ⟨p507, kinds507, hd, hnkq, hneq⟩ := hX8
        have c0 : wxc.cell? ⟨D, 0, none⟩ = some (.slice p507.ao (Txc).length p507.co) := hd.cell 0
        have hltq := hd.lt
        have HDq := show Hid _ from hd
        clear hd
        go_wp2_with (at_builtin; refine app rfl (.tmp 146) (.tmp 148) rfl D _ _ _ (Txc) rfl (HDq.out.out.alloc _) ⟨wxc.heap.size, 0, none⟩ 1 1 [125] rfl rfl ?c1_507 ?c2_507 ?c3_507 ?c4_507 ?_)
        case c1_507 => intro j hj; match j, hj with | 0, _ => simp [Addr.add]
        case c2_507 => intro y hy; simp at hy; omega
        case c3_507 => omega
        case c4_507 => simp; omega
        intro aq kq wq hbq hgq
        have hdA := HDq.out.grow (Grew.alloc wxc (.cells #[.int .u8 125] 5) none)
        have hc0 : wq.cell? ⟨D, 0, none⟩ = some (.slice p507.ao (Txc).length p507.co) := (hdA.cellG hgq hdA.oD 0).1
        have hf0 := (hdA.cellG hgq hdA.oD 0).2
        have hXq : DocX (wq.setCell ⟨D, 0, none⟩ (.slice aq ((Txc).length + 1) kq)) D (Txc ++ [125]) (S1) (E1) (pos1) (si1) (ni1) (wixc) := ⟨_, _, hdA.setOut hgq hbq, hnkq, hneq⟩
        have hBq : Below D wxc (wq.setCell ⟨D, 0, none⟩ (.slice aq ((Txc).length + 1) kq)) := (((Below.refl D wxc).alloc (Nat.le_of_lt hltq) _).trans (hgq.below (by simp; omega) (own_base HDq.out.out.own))).setCell (Nat.le_refl _) _
        clear hdA hbq hgq HDq c0 hnkq hneq
        go_upto_region 40 with fail
        generalize hW3 : wq.setCell ⟨D, 0, none⟩ (.slice aq (Txc.length + 1) kq) = w8 at *
        clear hW3 hc0 hf0
        obtain ⟨p8, kinds8, hd8, hnk8, hne8⟩ := hXq
        have HE8 := show Hid _ from hE8
        rw [hE8] at hd8
        clear hE8
        obtain ⟨g, cap, c2, hcg, hfg, hDg, hset⟩ := hd8.atEnd (e0 := ends) (e1 := E8) ((Txc.length : Int) + 1)
        rw [HNE.out] at c2 hcg hfg hset
        have c0 : w8.cell? ⟨D, 0, none⟩ = some (.slice p8.ao (Txc.length + 1) p8.co) := by have := hd8.cell 0; rw [this]; simp [fields]
        have hgD : g ≠ D := by omega
        have b1 : (0 : Int) ≤ (starts.length : Int) := by omega
        have b2 : (starts.length : Int) < (starts.length : Int) + ((E8.length : Int) + 1) := by omega
        have hlg : D < w8.heap.size := hd8.lt
        have HXF : Hid (DocX (w8.setCell ⟨g, starts.length, none⟩ (.int .i64 ((Txc.length : Int) + 1))).drew D (Txc ++ [125]) S1 (ends ++ ((Txc.length : Int) + 1) :: E8) pos1 si1 ni1 wixc) :=
          ⟨_, _, hset.carry rfl, hnk8, by rw [HE8.out] at hne8; simpa using hne8⟩
        have HBF : Hid (Below D wxc (w8.setCell ⟨g, starts.length, none⟩ (.int .i64 ((Txc.length : Int) + 1))).drew) := (hBq.setCell (Nat.le_of_lt hDg) _).drew
        have HVP : Hid (ValPost w _ D n out starts ends pos si ni wi) := Hxc.out.weak.close (.inl rfl) (cl := 125) (.inl rfl) (by omega) (by omega) HE8.out HXF.out HBF.out
        clear hset hd8 hnk8 hne8 HXF HBF hBq Hxc HE8 g1 g2 g3 g4 g5
        go_region_held3 (fun w' => w'.cell? ⟨D, 0, none⟩ = some (.slice p8.ao (Txc.length + 1) p8.co) ∧ w'.cell? ⟨D, 2, none⟩ = some (.slice (some ⟨g, 0, none⟩) (starts.length + (E8.length + 1)) cap)) (go_keep) (fail)
        go_wp2
        go_end0
        exact ⟨rfl, HVP.out⟩
      · have hj1 : ((j : Int) == 0) = false := by simp; omega
        clear hmA
        obtain ⟨E8, hE8⟩ := hmD.out.tailE
        have hX8 := hmD.out.doc
        obtain ⟨p608, kinds608, hd, hnkq, hneq⟩ := hX8
        have c0 : wr.cell? ⟨D, 0, none⟩ = some (.slice p608.ao (T).length p608.co) := hd.cell 0
        have hltq := hd.lt
        have HDq := show Hid _ from hd
        clear hd
        go_wp2_with (at_builtin; refine app rfl (.tmp 146) (.tmp 148) rfl D _ _ _ (T) rfl (HDq.out.out.alloc _) ⟨wr.heap.size, 0, none⟩ 1 1 [125] rfl rfl ?c1_608 ?c2_608 ?c3_608 ?c4_608 ?_)
        case c1_608 => intro j hj; match j, hj with | 0, _ => simp [Addr.add]
        case c2_608 => intro y hy; simp at hy; omega
        case c3_608 => omega
        case c4_608 => simp; omega
        intro aq kq wq hbq hgq
        have hdA := HDq.out.grow (Grew.alloc wr (.cells #[.int .u8 125] 5) none)
        have hc0 : wq.cell? ⟨D, 0, none⟩ = some (.slice p608.ao (T).length p608.co) := (hdA.cellG hgq hdA.oD 0).1
        have hf0 := (hdA.cellG hgq hdA.oD 0).2
        have hXq : DocX (wq.setCell ⟨D, 0, none⟩ (.slice aq ((T).length + 1) kq)) D (T ++ [125]) (S1) (E1) (pos1) (si1) (ni1) (wi1) := ⟨_, _, hdA.setOut hgq hbq, hnkq, hneq⟩
        have hBq : Below D wr (wq.setCell ⟨D, 0, none⟩ (.slice aq ((T).length + 1) kq)) := (((Below.refl D wr).alloc (Nat.le_of_lt hltq) _).trans (hgq.below (by simp; omega) (own_base HDq.out.out.own))).setCell (Nat.le_refl _) _
        clear hdA hbq hgq HDq c0 hnkq hneq
        go_upto_region 40 with fail
        generalize hW3 : wq.setCell ⟨D, 0, none⟩ (.slice aq (T.length + 1) kq) = w8 at *
        clear hW3 hc0 hf0
        obtain ⟨p8, kinds8, hd8, hnk8, hne8⟩ := hXq
        have HE8 := show Hid _ from hE8
        rw [hE8] at hd8
        clear hE8
        obtain ⟨g, cap, c2, hcg, hfg, hDg, hset⟩ := hd8.atEnd (e0 := ends) (e1 := E8) ((T.length : Int) + 1)
        rw [HNE.out] at c2 hcg hfg hset
        have c0 : w8.cell? ⟨D, 0, none⟩ = some (.slice p8.ao (T.length + 1) p8.co) := by have := hd8.cell 0; rw [this]; simp [fields]
        have hgD : g ≠ D := by omega
        have b1 : (0 : Int) ≤ (starts.length : Int) := by omega
        have b2 : (starts.length : Int) < (starts.length : Int) + ((E8.length : Int) + 1) := by omega
        have hlg : D < w8.heap.size := hd8.lt
        have HXF : Hid (DocX (w8.setCell ⟨g, starts.length, none⟩ (.int .i64 ((T.length : Int) + 1))).drew D (T ++ [125]) S1 (ends ++ ((T.length : Int) + 1) :: E8) pos1 si1 ni1 wi1) :=
          ⟨_, _, hset.carry rfl, hnk8, by rw [HE8.out] at hne8; simpa using hne8⟩
        have HBF : Hid (Below D wr (w8.setCell ⟨g, starts.length, none⟩ (.int .i64 ((T.length : Int) + 1))).drew) := (hBq.setCell (Nat.le_of_lt hDg) _).drew
        have HVP : Hid (ValPost w _ D n out starts ends pos si ni wi) := hmD.out.close (.inl rfl) (cl := 125) (.inl rfl) (by omega) (by omega) HE8.out HXF.out HBF.out
        clear hset hd8 hnk8 hne8 HXF HBF hBq hmD HE8 g1 g2 g3 g4 g5
        go_region_held3 (fun w' => w'.cell? ⟨D, 0, none⟩ = some (.slice p8.ao (T.length + 1) p8.co) ∧ w'.cell? ⟨D, 2, none⟩ = some (.slice (some ⟨g, 0, none⟩) (starts.length + (E8.length + 1)) cap)) (go_keep) (fail)
        go_wp2
        go_end0
        exact ⟨rfl, HVP.out⟩

end Go.Proofs.Qxb6600588a.Base
