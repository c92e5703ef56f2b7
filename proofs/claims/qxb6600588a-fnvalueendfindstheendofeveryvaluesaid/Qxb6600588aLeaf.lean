import Derived.Test.Qxb6600588aVal
namespace Go.Proofs.Qxb6600588a.Base
open Go.RowKit
set_option linter.unusedVariables false
set_option linter.unusedSimpArgs false

set_option maxRecDepth 100000 in
set_option maxHeartbeats 3200000 in
theorem val_str (W w : World) (D : Nat) (a : Option Addr) (n ca : Nat) (xs : List Int) (b : Option Addr) (m cb : Nat) (ss : List ByteArray) (c : Option Addr) (q cc : Nat) (out starts ends : List Int) (pos si ni wi : Nat)
    (hc : Came W D a n xs b m ss c q) (hB : Below D W w) (h : DocX w D out starts ends pos si ni wi) (hf : Fit n out.length starts.length pos si ni wi) (hp : pos < n)
    (x : Int) (hx0 : 0 ≤ x) (hx1 : x < 256) (ad : Nat) (off : Nat) (ha : a = some ⟨ad, off, none⟩) (had : ad < D) (hcx : w.cell? ⟨ad, off + pos, none⟩ = some (.int .u8 x)) (e0 : x % 8 = 0) :
    ValSaid W D a n ca b m cb c q cc w out starts ends pos si ni wi := by
  unfold ValSaid
  obtain ⟨hf1, hf2, hf3, hf4, hf5⟩ := hf
  have hlim := hc.lim
  obtain ⟨p, kinds, hd, hnk, hne⟩ := h
  have c4 : w.cell? ⟨D, 4, none⟩ = some (.int .i64 pos) := hd.cell 4
  have f4 := hd.frozen 4
  have hX : DocX (w.setCell ⟨D, 4, none⟩ (.int .i64 ((pos : Int) + 1))) D out starts ends (pos + 1) si ni wi := ⟨p, kinds, hd.setPos (pos + 1), hnk, hne⟩
  have hB1 : Below D w (w.setCell ⟨D, 4, none⟩ (.int .i64 ((pos : Int) + 1))) := (Below.refl D w).setCell (Nat.le_refl _) _
  have hBW := hB.trans hB1
  have HC := show Hid _ from hc
  clear hd hc
  have hnp : decide (n ≤ pos) = false := by simp; omega
  have t0 : (x % 8 == 0) = true := by simp; omega
  have t1 : (x % 8 == 1) = false := by simp; omega
  have t2 : (x % 8 == 2) = false := by simp; omega
  have t3 : (x % 8 == 3) = false := by simp; omega
  have t4 : (x % 8 == 4) = false := by simp; omega
  have t5 : (x % 8 == 5) = false := by simp; omega
  have t7 : (x % 8 == 7) = false := by simp; omega
  clear e0
  have st := str_any HC.out _ cb (x / 8) out starts ends (pos + 1) si ni wi hBW hX (by omega) (by omega) (by omega)
  subst ha
  clear hX
  go_enter Try.func9, Try.ntmps9
  go_wp2_with fail
  refine st.mono ?_
  rintro e w2 ⟨rfl, body, okb, leb, hX2, hB2⟩
  go_wp2
  go_end0
  exact ⟨rfl, _, _, _, _, _, _, _, _, hX2, hB1.trans hB2, inner_str okb _ rfl, by omega, by omega, by first | (simp; done) | (simp; omega), by first | (simp; done) | (simp; omega), by omega, by omega, by omega⟩

set_option maxRecDepth 100000 in
set_option maxHeartbeats 3200000 in
theorem val_true (W w : World) (D : Nat) (a : Option Addr) (n ca : Nat) (xs : List Int) (b : Option Addr) (m cb : Nat) (ss : List ByteArray) (c : Option Addr) (q cc : Nat) (out starts ends : List Int) (pos si ni wi : Nat)
    (hc : Came W D a n xs b m ss c q) (hB : Below D W w) (h : DocX w D out starts ends pos si ni wi) (hf : Fit n out.length starts.length pos si ni wi) (hp : pos < n)
    (x : Int) (hx0 : 0 ≤ x) (hx1 : x < 256) (ad : Nat) (off : Nat) (ha : a = some ⟨ad, off, none⟩) (had : ad < D) (hcx : w.cell? ⟨ad, off + pos, none⟩ = some (.int .u8 x)) (e0 : x % 8 = 2) :
    ValSaid W D a n ca b m cb c q cc w out starts ends pos si ni wi := by
  unfold ValSaid
  obtain ⟨hf1, hf2, hf3, hf4, hf5⟩ := hf
  have hlim := hc.lim
  obtain ⟨p, kinds, hd, hnk, hne⟩ := h
  have c4 : w.cell? ⟨D, 4, none⟩ = some (.int .i64 pos) := hd.cell 4
  have f4 := hd.frozen 4
  have hX : DocX (w.setCell ⟨D, 4, none⟩ (.int .i64 ((pos : Int) + 1))) D out starts ends (pos + 1) si ni wi := ⟨p, kinds, hd.setPos (pos + 1), hnk, hne⟩
  have hB1 : Below D w (w.setCell ⟨D, 4, none⟩ (.int .i64 ((pos : Int) + 1))) := (Below.refl D w).setCell (Nat.le_refl _) _
  have hBW := hB.trans hB1
  have HC := show Hid _ from hc
  clear hd hc
  have hnp : decide (n ≤ pos) = false := by simp; omega
  have t0 : (x % 8 == 0) = false := by simp; omega
  have t1 : (x % 8 == 1) = false := by simp; omega
  have t2 : (x % 8 == 2) = true := by simp; omega
  have t3 : (x % 8 == 3) = false := by simp; omega
  have t4 : (x % 8 == 4) = false := by simp; omega
  have t5 : (x % 8 == 5) = false := by simp; omega
  have t7 : (x % 8 == 7) = false := by simp; omega
  clear e0
  have st := lit_any _ D 3 ⟨#[116, 114, 117, 101]⟩ out starts ends (pos + 1) si ni wi (by omega) (by decide) (by decide) hX (by omega) (by omega)
  have hS : strInts ⟨#[116, 114, 117, 101]⟩ = [116, 114, 117, 101] := by decide
  have hZ : (⟨#[116, 114, 117, 101]⟩ : ByteArray).size = 4 := rfl
  rw [hS, hZ] at st
  clear hS hZ
  subst ha
  clear hX
  go_enter Try.func9, Try.ntmps9
  go_wp2_with fail
  refine st.mono ?_
  rintro e w2 ⟨rfl, hX2, hB2⟩
  go_wp2
  go_end0
  exact ⟨rfl, _, _, _, _, _, _, _, _, hX2, hB1.trans hB2, inner_scalar (body := [116, 114, 117, 101]) (by simp) (by decide) _ rfl, by omega, by omega, by first | (simp; done) | (simp; omega), by first | (simp; done) | (simp; omega), by omega, by omega, by omega⟩

set_option maxRecDepth 100000 in
set_option maxHeartbeats 3200000 in
theorem val_false (W w : World) (D : Nat) (a : Option Addr) (n ca : Nat) (xs : List Int) (b : Option Addr) (m cb : Nat) (ss : List ByteArray) (c : Option Addr) (q cc : Nat) (out starts ends : List Int) (pos si ni wi : Nat)
    (hc : Came W D a n xs b m ss c q) (hB : Below D W w) (h : DocX w D out starts ends pos si ni wi) (hf : Fit n out.length starts.length pos si ni wi) (hp : pos < n)
    (x : Int) (hx0 : 0 ≤ x) (hx1 : x < 256) (ad : Nat) (off : Nat) (ha : a = some ⟨ad, off, none⟩) (had : ad < D) (hcx : w.cell? ⟨ad, off + pos, none⟩ = some (.int .u8 x)) (e0 : x % 8 = 3) :
    ValSaid W D a n ca b m cb c q cc w out starts ends pos si ni wi := by
  unfold ValSaid
  obtain ⟨hf1, hf2, hf3, hf4, hf5⟩ := hf
  have hlim := hc.lim
  obtain ⟨p, kinds, hd, hnk, hne⟩ := h
  have c4 : w.cell? ⟨D, 4, none⟩ = some (.int .i64 pos) := hd.cell 4
  have f4 := hd.frozen 4
  have hX : DocX (w.setCell ⟨D, 4, none⟩ (.int .i64 ((pos : Int) + 1))) D out starts ends (pos + 1) si ni wi := ⟨p, kinds, hd.setPos (pos + 1), hnk, hne⟩
  have hB1 : Below D w (w.setCell ⟨D, 4, none⟩ (.int .i64 ((pos : Int) + 1))) := (Below.refl D w).setCell (Nat.le_refl _) _
  have hBW := hB.trans hB1
  have HC := show Hid _ from hc
  clear hd hc
  have hnp : decide (n ≤ pos) = false := by simp; omega
  have t0 : (x % 8 == 0) = false := by simp; omega
  have t1 : (x % 8 == 1) = false := by simp; omega
  have t2 : (x % 8 == 2) = false := by simp; omega
  have t3 : (x % 8 == 3) = true := by simp; omega
  have t4 : (x % 8 == 4) = false := by simp; omega
  have t5 : (x % 8 == 5) = false := by simp; omega
  have t7 : (x % 8 == 7) = false := by simp; omega
  clear e0
  have st := lit_any _ D 3 ⟨#[102, 97, 108, 115, 101]⟩ out starts ends (pos + 1) si ni wi (by omega) (by decide) (by decide) hX (by omega) (by omega)
  have hS : strInts ⟨#[102, 97, 108, 115, 101]⟩ = [102, 97, 108, 115, 101] := by decide
  have hZ : (⟨#[102, 97, 108, 115, 101]⟩ : ByteArray).size = 5 := rfl
  rw [hS, hZ] at st
  clear hS hZ
  subst ha
  clear hX
  go_enter Try.func9, Try.ntmps9
  go_wp2_with fail
  refine st.mono ?_
  rintro e w2 ⟨rfl, hX2, hB2⟩
  go_wp2
  go_end0
  exact ⟨rfl, _, _, _, _, _, _, _, _, hX2, hB1.trans hB2, inner_scalar (body := [102, 97, 108, 115, 101]) (by simp) (by decide) _ rfl, by omega, by omega, by first | (simp; done) | (simp; omega), by first | (simp; done) | (simp; omega), by omega, by omega, by omega⟩

set_option maxRecDepth 100000 in
set_option maxHeartbeats 3200000 in
theorem val_null (W w : World) (D : Nat) (a : Option Addr) (n ca : Nat) (xs : List Int) (b : Option Addr) (m cb : Nat) (ss : List ByteArray) (c : Option Addr) (q cc : Nat) (out starts ends : List Int) (pos si ni wi : Nat)
    (hc : Came W D a n xs b m ss c q) (hB : Below D W w) (h : DocX w D out starts ends pos si ni wi) (hf : Fit n out.length starts.length pos si ni wi) (hp : pos < n)
    (x : Int) (hx0 : 0 ≤ x) (hx1 : x < 256) (ad : Nat) (off : Nat) (ha : a = some ⟨ad, off, none⟩) (had : ad < D) (hcx : w.cell? ⟨ad, off + pos, none⟩ = some (.int .u8 x)) (e0 : x % 8 = 4) :
    ValSaid W D a n ca b m cb c q cc w out starts ends pos si ni wi := by
  unfold ValSaid
  obtain ⟨hf1, hf2, hf3, hf4, hf5⟩ := hf
  have hlim := hc.lim
  obtain ⟨p, kinds, hd, hnk, hne⟩ := h
  have c4 : w.cell? ⟨D, 4, none⟩ = some (.int .i64 pos) := hd.cell 4
  have f4 := hd.frozen 4
  have hX : DocX (w.setCell ⟨D, 4, none⟩ (.int .i64 ((pos : Int) + 1))) D out starts ends (pos + 1) si ni wi := ⟨p, kinds, hd.setPos (pos + 1), hnk, hne⟩
  have hB1 : Below D w (w.setCell ⟨D, 4, none⟩ (.int .i64 ((pos : Int) + 1))) := (Below.refl D w).setCell (Nat.le_refl _) _
  have hBW := hB.trans hB1
  have HC := show Hid _ from hc
  clear hd hc
  have hnp : decide (n ≤ pos) = false := by simp; omega
  have t0 : (x % 8 == 0) = false := by simp; omega
  have t1 : (x % 8 == 1) = false := by simp; omega
  have t2 : (x % 8 == 2) = false := by simp; omega
  have t3 : (x % 8 == 3) = false := by simp; omega
  have t4 : (x % 8 == 4) = true := by simp; omega
  have t5 : (x % 8 == 5) = false := by simp; omega
  have t7 : (x % 8 == 7) = false := by simp; omega
  clear e0
  have st := lit_any _ D 4 ⟨#[110, 117, 108, 108]⟩ out starts ends (pos + 1) si ni wi (by omega) (by decide) (by decide) hX (by omega) (by omega)
  have hS : strInts ⟨#[110, 117, 108, 108]⟩ = [110, 117, 108, 108] := by decide
  have hZ : (⟨#[110, 117, 108, 108]⟩ : ByteArray).size = 4 := rfl
  rw [hS, hZ] at st
  clear hS hZ
  subst ha
  clear hX
  go_enter Try.func9, Try.ntmps9
  go_wp2_with fail
  refine st.mono ?_
  rintro e w2 ⟨rfl, hX2, hB2⟩
  go_wp2
  go_end0
  exact ⟨rfl, _, _, _, _, _, _, _, _, hX2, hB1.trans hB2, inner_scalar (body := [110, 117, 108, 108]) (by simp) (by decide) _ rfl, by omega, by omega, by first | (simp; done) | (simp; omega), by first | (simp; done) | (simp; omega), by omega, by omega, by omega⟩

end Go.Proofs.Qxb6600588a.Base
