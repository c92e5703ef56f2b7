import Derived.Test.Qxb6600588aLeaf
namespace Go.Proofs.Qxb6600588a.Base
open Go.RowKit
set_option linter.unusedVariables false
set_option linter.unusedSimpArgs false

set_option maxRecDepth 100000 in
set_option maxHeartbeats 3200000 in
theorem val_num1h (W w : World) (D : Nat) (a : Option Addr) (n ca : Nat) (xs : List Int) (b : Option Addr) (m cb : Nat) (ss : List ByteArray) (c : Option Addr) (q cc : Nat) (out starts ends : List Int) (pos si ni wi : Nat)
    (hc : Came W D a n xs b m ss c q) (hB : Below D W w) (h : DocX w D out starts ends pos si ni wi) (hf : Fit n out.length starts.length pos si ni wi) (hp : pos < n)
    (x : Int) (hx0 : 0 ≤ x) (hx1 : x < 256) (ad : Nat) (off : Nat) (ha : a = some ⟨ad, off, none⟩) (had : ad < D) (hcx : w.cell? ⟨ad, off + pos, none⟩ = some (.int .u8 x)) (e0 : x % 8 = 1) (hq : ni < q) :
    ValSaid W D a n ca b m cb c q cc w out starts ends pos si ni wi := by
  unfold ValSaid
  obtain ⟨hf1, hf2, hf3, hf4, hf5⟩ := hf
  have hlim := hc.lim
  obtain ⟨p, kinds, hd, hnk, hne⟩ := h
  have c4 : w.cell? ⟨D, 4, none⟩ = some (.int .i64 pos) := hd.cell 4
  have f4 := hd.frozen 4
  have hX : DocX (w.setCell ⟨D, 4, none⟩ (.int .i64 ((pos : Int) + 1))) D out starts ends (pos + 1) si ni wi := ⟨p, kinds, hd.setPos (pos + 1), hnk, hne⟩
  have hB1 : Below D w (w.setCell ⟨D, 4, none⟩ (.int .i64 ((pos : Int) + 1))) := (Below.refl D w).setCell (Nat.le_refl _) _
  have hBW := hB.trans hB1
  have HC := show Hid _ from hc
  clear hd hc
  have hnp : decide (n ≤ pos) = false := by simp; omega
  have t0 : (x % 8 == 0) = false := by simp; omega
  have t1 : (x % 8 == 1) = true := by simp; omega
  have t2 : (x % 8 == 2) = false := by simp; omega
  have t3 : (x % 8 == 3) = false := by simp; omega
  have t4 : (x % 8 == 4) = false := by simp; omega
  have t5 : (x % 8 == 5) = false := by simp; omega
  have t7 : (x % 8 == 7) = false := by simp; omega
  clear e0
  have c6 : (w.setCell ⟨D, 4, none⟩ (.int .i64 ((pos : Int) + 1))).cell? ⟨D, 6, none⟩ = some (.int .i64 ni) := hX.choose_spec.choose_spec.1.cell 6
  have f6 := hX.choose_spec.choose_spec.1.frozen 6
  obtain ⟨p1, kinds1, hd1, hnk1, hne1⟩ := hX
  have hX2 : DocX ((w.setCell ⟨D, 4, none⟩ (.int .i64 ((pos : Int) + 1))).setCell ⟨D, 6, none⟩ (.int .i64 ((ni : Int) + 1))) D out starts ends (pos + 1) si (ni + 1) wi := ⟨p1, kinds1, hd1.setNi (ni + 1), hnk1, hne1⟩
  have hB2 : Below D w ((w.setCell ⟨D, 4, none⟩ (.int .i64 ((pos : Int) + 1))).setCell ⟨D, 6, none⟩ (.int .i64 ((ni : Int) + 1))) := hB1.setCell (Nat.le_refl _) _
  have opn := open_any _ D 5 out starts ends (pos + 1) si (ni + 1) wi (by omega) hX2 (by omega) (by omega)
  have HNE : Hid (ends.length = starts.length) := hne
  have HB2 := show Hid _ from hB2
  obtain ⟨bn, offn, z, hcn, hbn, hzn⟩ := HC.out.nums.cell ni hq
  have hbn' : bn < D := by rw [← HC.out.base]; exact hbn
  have hz1 : w.cell? ⟨bn, offn + ni, none⟩ = some (.int .i64 z) := by rw [hB.cell hbn']; exact hzn
  have hz2 : (w.setCell ⟨D, 4, none⟩ (.int .i64 ((pos : Int) + 1))).cell? ⟨bn, offn + ni, none⟩ = some (.int .i64 z) := by rw [hB1.cell hbn']; exact hz1
  subst hcn
  clear hbn hzn
  clear hX2 hB2 hB1 hBW hd1 hnk1 hne1 hne hnk hB HC
  subst ha
  go_enter Try.func9, Try.ntmps9
  go_wp2_with fail
  refine opn.mono ?_
  rintro e w1 ⟨rfl, ⟨p1, kinds1, hd, hnk, hne1⟩, hB1⟩
  clear opn
  have c0 : w1.cell? ⟨D, 0, none⟩ = some (.slice p1.ao out.length p1.co) := hd.cell 0
  have hlt1 := hd.lt
  have HD := show Hid _ from hd
  have oD := hd.oD
  have HB := show Hid _ from HB2.out.trans hB1
  clear hd HB2 hB1
  go_wp2_with fail
  refine (itoa_any D p1.ao out.length p1.co out _ w1 HD.out.out (by omega) (by omega)).mono ?_
  rintro e w2 ⟨a2, n2, k2, ds, rfl, dne, dpl, dle, hn2, hb2, hg2⟩
  have hc0 : w2.cell? ⟨D, 0, none⟩ = some (.slice p1.ao out.length p1.co) := (HD.out.cellG hg2 oD 0).1
  have hf0 := (HD.out.cellG hg2 oD 0).2
  have HD2 := show Hid _ from HD.out.setOut hg2 hb2
  have HB2 : Hid (Below D w (w2.setCell ⟨D, 0, none⟩ (.slice a2 n2 k2))) := (HB.out.trans (hg2.below (by omega) (own_base HD.out.out.own))).setCell (Nat.le_refl _) _
  have hn2' : n2 ≤ out.length + 21 := by omega
  have HN2 := show Hid _ from hn2
  have DNE := show Hid _ from dne
  have DPL := show Hid _ from dpl
  clear hb2 hg2 HB HD oD c0 hn2 dne dpl c6 f6 c4 f4 hcx
  go_upto_region 53 with fail
  generalize hW3 : w2.setCell ⟨D, 0, none⟩ (.slice a2 n2 k2) = w3 at *
  clear hW3 hc0 hf0
  obtain ⟨g, cap, c2, hcg, hfg, hDg, hset⟩ := HD2.out.atEnd (e0 := ends) (e1 := []) ((n2 : Int))
  simp only [List.length_nil, Nat.zero_add] at c2
  rw [HNE.out] at c2 hcg hfg hset
  have c0 : w3.cell? ⟨D, 0, none⟩ = some (.slice a2 (n2) k2) := by have := HD2.out.cell 0; rw [this]; simp [fields, HN2.out]
  have hgD : g ≠ D := by omega
  have b1 : (0 : Int) ≤ (starts.length : Int) := by omega
  have b2 : (starts.length : Int) < (starts.length : Int) + 1 := by omega
  have hlg : D < w3.heap.size := HD2.out.lt
  have hval : ((n2 : Int)) = (out.length : Int) + ((ds.length : Nat) : Int) := by rw [HN2.out]; simp
  have HXF : Hid (DocX (w3.setCell ⟨g, starts.length, none⟩ (.int .i64 ((n2 : Int)))).drew D (out ++ ds) (starts ++ [(out.length : Int)]) (ends ++ [(out.length : Int) + ((ds.length : Nat) : Int)]) (pos + 1) si (ni + 1) wi) := by
    have q9 := hset.carry (w1 := (w3.setCell ⟨g, starts.length, none⟩ (.int .i64 ((n2 : Int)))).drew) rfl
    have e9 : ends ++ [(n2 : Int)] = ends ++ [(out.length : Int) + ((ds.length : Nat) : Int)] := by rw [hval]
    rw [e9] at q9
    exact ⟨_, _, q9, hnk, by simpa using hne1⟩
  clear hset HD2 hval hnk hne1
  go_region_held3 (fun w' => w'.cell? ⟨D, 0, none⟩ = some (.slice a2 (n2) k2) ∧ w'.cell? ⟨D, 2, none⟩ = some (.slice (some ⟨g, 0, none⟩) (starts.length + 1) cap)) (go_keep) (fail)
  go_wp2
  go_end0
  refine ⟨rfl, ds, _, [(out.length : Int)], [(out.length : Int) + ((ds.length : Nat) : Int)], pos + 1, si, ni + 1, wi, HXF.out, (HB2.out.setCell (Nat.le_of_lt hDg) _).drew, inner_scalar (by exact DNE.out) ?_ _ rfl, by omega, by omega, by first | (simp; done) | (simp; omega), by first | (simp; done) | (simp; omega), by omega, by omega, by omega⟩
  exact DPL.out

set_option maxRecDepth 100000 in
set_option maxHeartbeats 3200000 in
theorem val_num1n (W w : World) (D : Nat) (a : Option Addr) (n ca : Nat) (xs : List Int) (b : Option Addr) (m cb : Nat) (ss : List ByteArray) (c : Option Addr) (q cc : Nat) (out starts ends : List Int) (pos si ni wi : Nat)
    (hc : Came W D a n xs b m ss c q) (hB : Below D W w) (h : DocX w D out starts ends pos si ni wi) (hf : Fit n out.length starts.length pos si ni wi) (hp : pos < n)
    (x : Int) (hx0 : 0 ≤ x) (hx1 : x < 256) (ad : Nat) (off : Nat) (ha : a = some ⟨ad, off, none⟩) (had : ad < D) (hcx : w.cell? ⟨ad, off + pos, none⟩ = some (.int .u8 x)) (e0 : x % 8 = 1) (hq : q ≤ ni) :
    ValSaid W D a n ca b m cb c q cc w out starts ends pos si ni wi := by
  unfold ValSaid
  obtain ⟨hf1, hf2, hf3, hf4, hf5⟩ := hf
  have hlim := hc.lim
  obtain ⟨p, kinds, hd, hnk, hne⟩ := h
  have c4 : w.cell? ⟨D, 4, none⟩ = some (.int .i64 pos) := hd.cell 4
  have f4 := hd.frozen 4
  have hX : DocX (w.setCell ⟨D, 4, none⟩ (.int .i64 ((pos : Int) + 1))) D out starts ends (pos + 1) si ni wi := ⟨p, kinds, hd.setPos (pos + 1), hnk, hne⟩
  have hB1 : Below D w (w.setCell ⟨D, 4, none⟩ (.int .i64 ((pos : Int) + 1))) := (Below.refl D w).setCell (Nat.le_refl _) _
  have hBW := hB.trans hB1
  have HC := show Hid _ from hc
  clear hd hc
  have hnp : decide (n ≤ pos) = false := by simp; omega
  have t0 : (x % 8 == 0) = false := by simp; omega
  have t1 : (x % 8 == 1) = true := by simp; omega
  have t2 : (x % 8 == 2) = false := by simp; omega
  have t3 : (x % 8 == 3) = false := by simp; omega
  have t4 : (x % 8 == 4) = false := by simp; omega
  have t5 : (x % 8 == 5) = false := by simp; omega
  have t7 : (x % 8 == 7) = false := by simp; omega
  clear e0
  have c6 : (w.setCell ⟨D, 4, none⟩ (.int .i64 ((pos : Int) + 1))).cell? ⟨D, 6, none⟩ = some (.int .i64 ni) := hX.choose_spec.choose_spec.1.cell 6
  have f6 := hX.choose_spec.choose_spec.1.frozen 6
  obtain ⟨p1, kinds1, hd1, hnk1, hne1⟩ := hX
  have hX2 : DocX ((w.setCell ⟨D, 4, none⟩ (.int .i64 ((pos : Int) + 1))).setCell ⟨D, 6, none⟩ (.int .i64 ((ni : Int) + 1))) D out starts ends (pos + 1) si (ni + 1) wi := ⟨p1, kinds1, hd1.setNi (ni + 1), hnk1, hne1⟩
  have hB2 : Below D w ((w.setCell ⟨D, 4, none⟩ (.int .i64 ((pos : Int) + 1))).setCell ⟨D, 6, none⟩ (.int .i64 ((ni : Int) + 1))) := hB1.setCell (Nat.le_refl _) _
  have opn := open_any _ D 5 out starts ends (pos + 1) si (ni + 1) wi (by omega) hX2 (by omega) (by omega)
  have HNE : Hid (ends.length = starts.length) := hne
  have HB2 := show Hid _ from hB2
  clear hX2 hB2 hB1 hBW hd1 hnk1 hne1 hne hnk hB HC
  subst ha
  go_enter Try.func9, Try.ntmps9
  go_wp2_with fail
  refine opn.mono ?_
  rintro e w1 ⟨rfl, ⟨p1, kinds1, hd, hnk, hne1⟩, hB1⟩
  clear opn
  have c0 : w1.cell? ⟨D, 0, none⟩ = some (.slice p1.ao out.length p1.co) := hd.cell 0
  have hlt1 := hd.lt
  have HD := show Hid _ from hd
  have oD := hd.oD
  have HB := show Hid _ from HB2.out.trans hB1
  clear hd HB2 hB1
  go_wp2_with fail
  refine (itoa_any D p1.ao out.length p1.co out _ w1 HD.out.out (by omega) (by omega)).mono ?_
  rintro e w2 ⟨a2, n2, k2, ds, rfl, dne, dpl, dle, hn2, hb2, hg2⟩
  have hc0 : w2.cell? ⟨D, 0, none⟩ = some (.slice p1.ao out.length p1.co) := (HD.out.cellG hg2 oD 0).1
  have hf0 := (HD.out.cellG hg2 oD 0).2
  have HD2 := show Hid _ from HD.out.setOut hg2 hb2
  have HB2 : Hid (Below D w (w2.setCell ⟨D, 0, none⟩ (.slice a2 n2 k2))) := (HB.out.trans (hg2.below (by omega) (own_base HD.out.out.own))).setCell (Nat.le_refl _) _
  have hn2' : n2 ≤ out.length + 21 := by omega
  have HN2 := show Hid _ from hn2
  have DNE := show Hid _ from dne
  have DPL := show Hid _ from dpl
  clear hb2 hg2 HB HD oD c0 hn2 dne dpl c6 f6 c4 f4 hcx
  go_upto_region 53 with fail
  generalize hW3 : w2.setCell ⟨D, 0, none⟩ (.slice a2 n2 k2) = w3 at *
  clear hW3 hc0 hf0
  obtain ⟨g, cap, c2, hcg, hfg, hDg, hset⟩ := HD2.out.atEnd (e0 := ends) (e1 := []) ((n2 : Int))
  simp only [List.length_nil, Nat.zero_add] at c2
  rw [HNE.out] at c2 hcg hfg hset
  have c0 : w3.cell? ⟨D, 0, none⟩ = some (.slice a2 (n2) k2) := by have := HD2.out.cell 0; rw [this]; simp [fields, HN2.out]
  have hgD : g ≠ D := by omega
  have b1 : (0 : Int) ≤ (starts.length : Int) := by omega
  have b2 : (starts.length : Int) < (starts.length : Int) + 1 := by omega
  have hlg : D < w3.heap.size := HD2.out.lt
  have hval : ((n2 : Int)) = (out.length : Int) + ((ds.length : Nat) : Int) := by rw [HN2.out]; simp
  have HXF : Hid (DocX (w3.setCell ⟨g, starts.length, none⟩ (.int .i64 ((n2 : Int)))).drew D (out ++ ds) (starts ++ [(out.length : Int)]) (ends ++ [(out.length : Int) + ((ds.length : Nat) : Int)]) (pos + 1) si (ni + 1) wi) := by
    have q9 := hset.carry (w1 := (w3.setCell ⟨g, starts.length, none⟩ (.int .i64 ((n2 : Int)))).drew) rfl
    have e9 : ends ++ [(n2 : Int)] = ends ++ [(out.length : Int) + ((ds.length : Nat) : Int)] := by rw [hval]
    rw [e9] at q9
    exact ⟨_, _, q9, hnk, by simpa using hne1⟩
  clear hset HD2 hval hnk hne1
  go_region_held3 (fun w' => w'.cell? ⟨D, 0, none⟩ = some (.slice a2 (n2) k2) ∧ w'.cell? ⟨D, 2, none⟩ = some (.slice (some ⟨g, 0, none⟩) (starts.length + 1) cap)) (go_keep) (fail)
  go_wp2
  go_end0
  refine ⟨rfl, ds, _, [(out.length : Int)], [(out.length : Int) + ((ds.length : Nat) : Int)], pos + 1, si, ni + 1, wi, HXF.out, (HB2.out.setCell (Nat.le_of_lt hDg) _).drew, inner_scalar (by exact DNE.out) ?_ _ rfl, by omega, by omega, by first | (simp; done) | (simp; omega), by first | (simp; done) | (simp; omega), by omega, by omega, by omega⟩
  exact DPL.out

set_option maxRecDepth 100000 in
set_option maxHeartbeats 3200000 in
theorem val_num7h (W w : World) (D : Nat) (a : Option Addr) (n ca : Nat) (xs : List Int) (b : Option Addr) (m cb : Nat) (ss : List ByteArray) (c : Option Addr) (q cc : Nat) (out starts ends : List Int) (pos si ni wi : Nat)
    (hc : Came W D a n xs b m ss c q) (hB : Below D W w) (h : DocX w D out starts ends pos si ni wi) (hf : Fit n out.length starts.length pos si ni wi) (hp : pos < n)
    (x : Int) (hx0 : 0 ≤ x) (hx1 : x < 256) (ad : Nat) (off : Nat) (ha : a = some ⟨ad, off, none⟩) (had : ad < D) (hcx : w.cell? ⟨ad, off + pos, none⟩ = some (.int .u8 x)) (e0 : x % 8 = 7) (hq : ni < q) :
    ValSaid W D a n ca b m cb c q cc w out starts ends pos si ni wi := by
  unfold ValSaid
  obtain ⟨hf1, hf2, hf3, hf4, hf5⟩ := hf
  have hlim := hc.lim
  obtain ⟨p, kinds, hd, hnk, hne⟩ := h
  have c4 : w.cell? ⟨D, 4, none⟩ = some (.int .i64 pos) := hd.cell 4
  have f4 := hd.frozen 4
  have hX : DocX (w.setCell ⟨D, 4, none⟩ (.int .i64 ((pos : Int) + 1))) D out starts ends (pos + 1) si ni wi := ⟨p, kinds, hd.setPos (pos + 1), hnk, hne⟩
  have hB1 : Below D w (w.setCell ⟨D, 4, none⟩ (.int .i64 ((pos : Int) + 1))) := (Below.refl D w).setCell (Nat.le_refl _) _
  have hBW := hB.trans hB1
  have HC := show Hid _ from hc
  clear hd hc
  have hnp : decide (n ≤ pos) = false := by simp; omega
  have t0 : (x % 8 == 0) = false := by simp; omega
  have t1 : (x % 8 == 1) = false := by simp; omega
  have t2 : (x % 8 == 2) = false := by simp; omega
  have t3 : (x % 8 == 3) = false := by simp; omega
  have t4 : (x % 8 == 4) = false := by simp; omega
  have t5 : (x % 8 == 5) = false := by simp; omega
  have t7 : (x % 8 == 7) = true := by simp; omega
  clear e0
  have c6 : (w.setCell ⟨D, 4, none⟩ (.int .i64 ((pos : Int) + 1))).cell? ⟨D, 6, none⟩ = some (.int .i64 ni) := hX.choose_spec.choose_spec.1.cell 6
  have f6 := hX.choose_spec.choose_spec.1.frozen 6
  obtain ⟨p1, kinds1, hd1, hnk1, hne1⟩ := hX
  have hX2 : DocX ((w.setCell ⟨D, 4, none⟩ (.int .i64 ((pos : Int) + 1))).setCell ⟨D, 6, none⟩ (.int .i64 ((ni : Int) + 1))) D out starts ends (pos + 1) si (ni + 1) wi := ⟨p1, kinds1, hd1.setNi (ni + 1), hnk1, hne1⟩
  have hB2 : Below D w ((w.setCell ⟨D, 4, none⟩ (.int .i64 ((pos : Int) + 1))).setCell ⟨D, 6, none⟩ (.int .i64 ((ni : Int) + 1))) := hB1.setCell (Nat.le_refl _) _
  have opn := open_any _ D 5 out starts ends (pos + 1) si (ni + 1) wi (by omega) hX2 (by omega) (by omega)
  have HNE : Hid (ends.length = starts.length) := hne
  have HB2 := show Hid _ from hB2
  obtain ⟨bn, offn, z, hcn, hbn, hzn⟩ := HC.out.nums.cell ni hq
  have hbn' : bn < D := by rw [← HC.out.base]; exact hbn
  have hz1 : w.cell? ⟨bn, offn + ni, none⟩ = some (.int .i64 z) := by rw [hB.cell hbn']; exact hzn
  have hz2 : (w.setCell ⟨D, 4, none⟩ (.int .i64 ((pos : Int) + 1))).cell? ⟨bn, offn + ni, none⟩ = some (.int .i64 z) := by rw [hB1.cell hbn']; exact hz1
  subst hcn
  clear hbn hzn
  clear hX2 hB2 hB1 hBW hd1 hnk1 hne1 hne hnk hB HC
  subst ha
  go_enter Try.func9, Try.ntmps9
  go_wp2_with fail
  refine opn.mono ?_
  rintro e w1 ⟨rfl, ⟨p1, kinds1, hd, hnk, hne1⟩, hB1⟩
  clear opn
  have c0 : w1.cell? ⟨D, 0, none⟩ = some (.slice p1.ao out.length p1.co) := hd.cell 0
  have hlt1 := hd.lt
  have HD := show Hid _ from hd
  have oD := hd.oD
  have HB := show Hid _ from HB2.out.trans hB1
  clear hd HB2 hB1
  go_wp2_with fail
  refine (itoa_any D p1.ao out.length p1.co out _ w1 HD.out.out (by omega) (by omega)).mono ?_
  rintro e w2 ⟨a2, n2, k2, ds, rfl, dne, dpl, dle, hn2, hb2, hg2⟩
  have hc0 : w2.cell? ⟨D, 0, none⟩ = some (.slice p1.ao out.length p1.co) := (HD.out.cellG hg2 oD 0).1
  have hf0 := (HD.out.cellG hg2 oD 0).2
  have HD2 := show Hid _ from HD.out.setOut hg2 hb2
  have HB2 : Hid (Below D w (w2.setCell ⟨D, 0, none⟩ (.slice a2 n2 k2))) := (HB.out.trans (hg2.below (by omega) (own_base HD.out.out.own))).setCell (Nat.le_refl _) _
  have hn2' : n2 ≤ out.length + 21 := by omega
  have HN2 := show Hid _ from hn2
  have DNE := show Hid _ from dne
  have DPL := show Hid _ from dpl
  clear hb2 hg2 HB HD oD c0 hn2 dne dpl c6 f6 c4 f4 hcx
  go_upto_region 52 with fail
  generalize hW3 : w2.setCell ⟨D, 0, none⟩ (.slice a2 n2 k2) = w4 at *
  clear hW3 hc0 hf0
  have c0 : w4.cell? ⟨D, 0, none⟩ = some (.slice a2 n2 k2) := by have := HD2.out.cell 0; rw [this]; simp [fields, HN2.out]
  have hlt4 := HD2.out.lt
  have hb4 : Buf w4 D a2 n2 k2 (out ++ ds) := by have := HD2.out.out; simpa [HN2.out] using this
  have HB4 := show Hid _ from hb4
  have oD4 : blk a2 ≠ some D := HD2.out.oD
  clear hb4
  go_wp2_with (at_builtin; refine app_str rfl (.tmp 212) _ rfl D _ _ _ (out ++ ds) rfl HB4.out ⟨#[46, 50, 53, 69, 43, 55]⟩ rfl (by decide) (by show n2 + 6 ≤ _; omega) (by omega) ?_)
  intro a5 k5 w5 hb5 hg5
  have hS : strInts ⟨#[46, 50, 53, 69, 43, 55]⟩ = [46, 50, 53, 69, 43, 55] := by decide
  rw [hS] at hb5
  have hc0 : w5.cell? ⟨D, 0, none⟩ = some (.slice a2 (out ++ ds).length k2) := (HD2.out.cellG hg5 oD4 0).1
  have hf0 := (HD2.out.cellG hg5 oD4 0).2
  have HD3 := show Hid _ from HD2.out.setOut hg5 hb5
  have HB3 : Hid (Below D w (w5.setCell ⟨D, 0, none⟩ (.slice a5 (n2 + 6) k5))) := (HB2.out.trans (hg5.below (by omega) (own_base HD2.out.out.own))).setCell (Nat.le_refl _) _
  clear hb5 hg5 HB2 HD2 oD4 c0 HB4 hS
  go_upto_region 53 with fail
  generalize hW3 : w5.setCell ⟨D, 0, none⟩ (.slice a5 (n2 + 6) k5) = w3 at *
  clear hW3 hc0 hf0
  obtain ⟨g, cap, c2, hcg, hfg, hDg, hset⟩ := HD3.out.atEnd (e0 := ends) (e1 := []) ((n2 : Int) + 6)
  simp only [List.length_nil, Nat.zero_add] at c2
  rw [HNE.out] at c2 hcg hfg hset
  have c0 : w3.cell? ⟨D, 0, none⟩ = some (.slice a5 (n2 + 6) k5) := by have := HD3.out.cell 0; rw [this]; simp [fields, HN2.out]; omega
  have hgD : g ≠ D := by omega
  have b1 : (0 : Int) ≤ (starts.length : Int) := by omega
  have b2 : (starts.length : Int) < (starts.length : Int) + 1 := by omega
  have hlg : D < w3.heap.size := HD3.out.lt
  have hval : ((n2 : Int) + 6) = (out.length : Int) + (((ds ++ [46, 50, 53, 69, 43, 55]).length : Nat) : Int) := by rw [HN2.out]; simp; omega
  have HXF : Hid (DocX (w3.setCell ⟨g, starts.length, none⟩ (.int .i64 ((n2 : Int) + 6))).drew D (out ++ (ds ++ [46, 50, 53, 69, 43, 55])) (starts ++ [(out.length : Int)]) (ends ++ [(out.length : Int) + (((ds ++ [46, 50, 53, 69, 43, 55]).length : Nat) : Int)]) (pos + 1) si (ni + 1) wi) := by
    have q9 := hset.carry (w1 := (w3.setCell ⟨g, starts.length, none⟩ (.int .i64 ((n2 : Int) + 6))).drew) rfl
    have e9 : ends ++ [(n2 : Int) + 6] = ends ++ [(out.length : Int) + (((ds ++ [46, 50, 53, 69, 43, 55]).length : Nat) : Int)] := by rw [hval]
    rw [e9] at q9
    exact ⟨_, _, q9, hnk, by simpa using hne1⟩
  clear hset HD3 hval hnk hne1
  go_region_held3 (fun w' => w'.cell? ⟨D, 0, none⟩ = some (.slice a5 (n2 + 6) k5) ∧ w'.cell? ⟨D, 2, none⟩ = some (.slice (some ⟨g, 0, none⟩) (starts.length + 1) cap)) (go_keep) (fail)
  go_wp2
  go_end0
  refine ⟨rfl, (ds ++ [46, 50, 53, 69, 43, 55]), _, [(out.length : Int)], [(out.length : Int) + (((ds ++ [46, 50, 53, 69, 43, 55]).length : Nat) : Int)], pos + 1, si, ni + 1, wi, HXF.out, (HB3.out.setCell (Nat.le_of_lt hDg) _).drew, inner_scalar (by simp) ?_ _ rfl, by omega, by omega, by first | (simp; done) | (simp; omega), by first | (simp; done) | (simp; omega), by omega, by omega, by omega⟩
  intro y hy
  rcases List.mem_append.1 hy with hy | hy
  · exact DPL.out y hy
  · exact (show ∀ y ∈ ([46, 50, 53, 69, 43, 55] : List Int), plain y = true by decide) y ‹_›

set_option maxRecDepth 100000 in
set_option maxHeartbeats 3200000 in
theorem val_num7n (W w : World) (D : Nat) (a : Option Addr) (n ca : Nat) (xs : List Int) (b : Option Addr) (m cb : Nat) (ss : List ByteArray) (c : Option Addr) (q cc : Nat) (out starts ends : List Int) (pos si ni wi : Nat)
    (hc : Came W D a n xs b m ss c q) (hB : Below D W w) (h : DocX w D out starts ends pos si ni wi) (hf : Fit n out.length starts.length pos si ni wi) (hp : pos < n)
    (x : Int) (hx0 : 0 ≤ x) (hx1 : x < 256) (ad : Nat) (off : Nat) (ha : a = some ⟨ad, off, none⟩) (had : ad < D) (hcx : w.cell? ⟨ad, off + pos, none⟩ = some (.int .u8 x)) (e0 : x % 8 = 7) (hq : q ≤ ni) :
    ValSaid W D a n ca b m cb c q cc w out starts ends pos si ni wi := by
  unfold ValSaid
  obtain ⟨hf1, hf2, hf3, hf4, hf5⟩ := hf
  have hlim := hc.lim
  obtain ⟨p, kinds, hd, hnk, hne⟩ := h
  have c4 : w.cell? ⟨D, 4, none⟩ = some (.int .i64 pos) := hd.cell 4
  have f4 := hd.frozen 4
  have hX : DocX (w.setCell ⟨D, 4, none⟩ (.int .i64 ((pos : Int) + 1))) D out starts ends (pos + 1) si ni wi := ⟨p, kinds, hd.setPos (pos + 1), hnk, hne⟩
  have hB1 : Below D w (w.setCell ⟨D, 4, none⟩ (.int .i64 ((pos : Int) + 1))) := (Below.refl D w).setCell (Nat.le_refl _) _
  have hBW := hB.trans hB1
  have HC := show Hid _ from hc
  clear hd hc
  have hnp : decide (n ≤ pos) = false := by simp; omega
  have t0 : (x % 8 == 0) = false := by simp; omega
  have t1 : (x % 8 == 1) = false := by simp; omega
  have t2 : (x % 8 == 2) = false := by simp; omega
  have t3 : (x % 8 == 3) = false := by simp; omega
  have t4 : (x % 8 == 4) = false := by simp; omega
  have t5 : (x % 8 == 5) = false := by simp; omega
  have t7 : (x % 8 == 7) = true := by simp; omega
  clear e0
  have c6 : (w.setCell ⟨D, 4, none⟩ (.int .i64 ((pos : Int) + 1))).cell? ⟨D, 6, none⟩ = some (.int .i64 ni) := hX.choose_spec.choose_spec.1.cell 6
  have f6 := hX.choose_spec.choose_spec.1.frozen 6
  obtain ⟨p1, kinds1, hd1, hnk1, hne1⟩ := hX
  have hX2 : DocX ((w.setCell ⟨D, 4, none⟩ (.int .i64 ((pos : Int) + 1))).setCell ⟨D, 6, none⟩ (.int .i64 ((ni : Int) + 1))) D out starts ends (pos + 1) si (ni + 1) wi := ⟨p1, kinds1, hd1.setNi (ni + 1), hnk1, hne1⟩
  have hB2 : Below D w ((w.setCell ⟨D, 4, none⟩ (.int .i64 ((pos : Int) + 1))).setCell ⟨D, 6, none⟩ (.int .i64 ((ni : Int) + 1))) := hB1.setCell (Nat.le_refl _) _
  have opn := open_any _ D 5 out starts ends (pos + 1) si (ni + 1) wi (by omega) hX2 (by omega) (by omega)
  have HNE : Hid (ends.length = starts.length) := hne
  have HB2 := show Hid _ from hB2
  clear hX2 hB2 hB1 hBW hd1 hnk1 hne1 hne hnk hB HC
  subst ha
  go_enter Try.func9, Try.ntmps9
  go_wp2_with fail
  refine opn.mono ?_
  rintro e w1 ⟨rfl, ⟨p1, kinds1, hd, hnk, hne1⟩, hB1⟩
  clear opn
  have c0 : w1.cell? ⟨D, 0, none⟩ = some (.slice p1.ao out.length p1.co) := hd.cell 0
  have hlt1 := hd.lt
  have HD := show Hid _ from hd
  have oD := hd.oD
  have HB := show Hid _ from HB2.out.trans hB1
  clear hd HB2 hB1
  go_wp2_with fail
  refine (itoa_any D p1.ao out.length p1.co out _ w1 HD.out.out (by omega) (by omega)).mono ?_
  rintro e w2 ⟨a2, n2, k2, ds, rfl, dne, dpl, dle, hn2, hb2, hg2⟩
  have hc0 : w2.cell? ⟨D, 0, none⟩ = some (.slice p1.ao out.length p1.co) := (HD.out.cellG hg2 oD 0).1
  have hf0 := (HD.out.cellG hg2 oD 0).2
  have HD2 := show Hid _ from HD.out.setOut hg2 hb2
  have HB2 : Hid (Below D w (w2.setCell ⟨D, 0, none⟩ (.slice a2 n2 k2))) := (HB.out.trans (hg2.below (by omega) (own_base HD.out.out.own))).setCell (Nat.le_refl _) _
  have hn2' : n2 ≤ out.length + 21 := by omega
  have HN2 := show Hid _ from hn2
  have DNE := show Hid _ from dne
  have DPL := show Hid _ from dpl
  clear hb2 hg2 HB HD oD c0 hn2 dne dpl c6 f6 c4 f4 hcx
  go_upto_region 52 with fail
  generalize hW3 : w2.setCell ⟨D, 0, none⟩ (.slice a2 n2 k2) = w4 at *
  clear hW3 hc0 hf0
  have c0 : w4.cell? ⟨D, 0, none⟩ = some (.slice a2 n2 k2) := by have := HD2.out.cell 0; rw [this]; simp [fields, HN2.out]
  have hlt4 := HD2.out.lt
  have hb4 : Buf w4 D a2 n2 k2 (out ++ ds) := by have := HD2.out.out; simpa [HN2.out] using this
  have HB4 := show Hid _ from hb4
  have oD4 : blk a2 ≠ some D := HD2.out.oD
  clear hb4
  go_wp2_with (at_builtin; refine app_str rfl (.tmp 212) _ rfl D _ _ _ (out ++ ds) rfl HB4.out ⟨#[46, 50, 53, 69, 43, 55]⟩ rfl (by decide) (by show n2 + 6 ≤ _; omega) (by omega) ?_)
  intro a5 k5 w5 hb5 hg5
  have hS : strInts ⟨#[46, 50, 53, 69, 43, 55]⟩ = [46, 50, 53, 69, 43, 55] := by decide
  rw [hS] at hb5
  have hc0 : w5.cell? ⟨D, 0, none⟩ = some (.slice a2 (out ++ ds).length k2) := (HD2.out.cellG hg5 oD4 0).1
  have hf0 := (HD2.out.cellG hg5 oD4 0).2
  have HD3 := show Hid _ from HD2.out.setOut hg5 hb5
  have HB3 : Hid (Below D w (w5.setCell ⟨D, 0, none⟩ (.slice a5 (n2 + 6) k5))) := (HB2.out.trans (hg5.below (by omega) (own_base HD2.out.out.own))).setCell (Nat.le_refl _) _
  clear hb5 hg5 HB2 HD2 oD4 c0 HB4 hS
  go_upto_region 53 with fail
  generalize hW3 : w5.setCell ⟨D, 0, none⟩ (.slice a5 (n2 + 6) k5) = w3 at *
  clear hW3 hc0 hf0
  obtain ⟨g, cap, c2, hcg, hfg, hDg, hset⟩ := HD3.out.atEnd (e0 := ends) (e1 := []) ((n2 : Int) + 6)
  simp only [List.length_nil, Nat.zero_add] at c2
  rw [HNE.out] at c2 hcg hfg hset
  have c0 : w3.cell? ⟨D, 0, none⟩ = some (.slice a5 (n2 + 6) k5) := by have := HD3.out.cell 0; rw [this]; simp [fields, HN2.out]; omega
  have hgD : g ≠ D := by omega
  have b1 : (0 : Int) ≤ (starts.length : Int) := by omega
  have b2 : (starts.length : Int) < (starts.length : Int) + 1 := by omega
  have hlg : D < w3.heap.size := HD3.out.lt
  have hval : ((n2 : Int) + 6) = (out.length : Int) + (((ds ++ [46, 50, 53, 69, 43, 55]).length : Nat) : Int) := by rw [HN2.out]; simp; omega
  have HXF : Hid (DocX (w3.setCell ⟨g, starts.length, none⟩ (.int .i64 ((n2 : Int) + 6))).drew D (out ++ (ds ++ [46, 50, 53, 69, 43, 55])) (starts ++ [(out.length : Int)]) (ends ++ [(out.length : Int) + (((ds ++ [46, 50, 53, 69, 43, 55]).length : Nat) : Int)]) (pos + 1) si (ni + 1) wi) := by
    have q9 := hset.carry (w1 := (w3.setCell ⟨g, starts.length, none⟩ (.int .i64 ((n2 : Int) + 6))).drew) rfl
    have e9 : ends ++ [(n2 : Int) + 6] = ends ++ [(out.length : Int) + (((ds ++ [46, 50, 53, 69, 43, 55]).length : Nat) : Int)] := by rw [hval]
    rw [e9] at q9
    exact ⟨_, _, q9, hnk, by simpa using hne1⟩
  clear hset HD3 hval hnk hne1
  go_region_held3 (fun w' => w'.cell? ⟨D, 0, none⟩ = some (.slice a5 (n2 + 6) k5) ∧ w'.cell? ⟨D, 2, none⟩ = some (.slice (some ⟨g, 0, none⟩) (starts.length + 1) cap)) (go_keep) (fail)
  go_wp2
  go_end0
  refine ⟨rfl, (ds ++ [46, 50, 53, 69, 43, 55]), _, [(out.length : Int)], [(out.length : Int) + (((ds ++ [46, 50, 53, 69, 43, 55]).length : Nat) : Int)], pos + 1, si, ni + 1, wi, HXF.out, (HB3.out.setCell (Nat.le_of_lt hDg) _).drew, inner_scalar (by simp) ?_ _ rfl, by omega, by omega, by first | (simp; done) | (simp; omega), by first | (simp; done) | (simp; omega), by omega, by omega, by omega⟩
  intro y hy
  rcases List.mem_append.1 hy with hy | hy
  · exact DPL.out y hy
  · exact (show ∀ y ∈ ([46, 50, 53, 69, 43, 55] : List Int), plain y = true by decide) y ‹_›

end Go.Proofs.Qxb6600588a.Base
