import Derived.Test.Qxb6601856aBuf
namespace Go.Proofs.Qxb6601856a.Base
open Go.RowKit
set_option linter.unusedVariables false
set_option linter.unusedSimpArgs false

set_option maxHeartbeats 1000000 in
theorem guard_yes (a b : Option Addr) (n c m d : Nat) (i j : Int) (w : World) (h : n + m ≤ 1048576) :
    Calls Try.prog 13 #[.slice a n c, .slice b m d, .int .i64 i, .int .i64 j] w fun e w' => e = .returned (.bool true) ∧ w = w' := by
  go_enter Try.func13, Try.ntmps13
  go_wp2
  go_ret
  exact ⟨rfl, rfl⟩

set_option maxRecDepth 100000 in
set_option maxHeartbeats 4000000 in
theorem build_long (a b : Option Addr) (n c m d : Nat) (p q : Int) (w : World) (h1 : n ≤ maxLen) (h2 : m ≤ maxLen) (h : 524288 < n ∨ 524288 < m) :
    Calls Try.prog 4 #[.slice a n c, .slice b m d, .int .i64 p, .int .i64 q] w fun e w' => e = .returned (.bool true) ∧ Below w.heap.size w w' := by
  have g := guard_any a b n c m d p q w h1 h2
  unfold maxLen at h1 h2
  go_enter Try.func4, Try.ntmps4
  go_wp2_with fail
  refine g.mono ?_
  rintro e w' ⟨⟨r, rfl⟩, rfl⟩
  clear g
  cases r with
  | false =>
    go_wp2
    go_ret
    exact ⟨rfl, Below.refl _ _⟩
  | true =>
    by_cases hx : 524288 < n
    · clear h
      go_wp2
      go_ret
      exact ⟨rfl, Below.refl _ _⟩
    · have hy : 524288 < m := by omega
      have dx : decide ((524288 : Int) < (n : Int)) = false := decide_eq_false (by omega)
      clear h
      go_wp2
      go_ret
      exact ⟨rfl, Below.refl _ _⟩

set_option maxRecDepth 100000 in
set_option maxHeartbeats 4000000 in
theorem build_out (a b : Option Addr) (n c m d : Nat) (p q : Int) (w : World) (h1 : n ≤ 524288) (h2 : m ≤ 524288) (h : p < 0 ∨ 9 < p ∨ q < 0 ∨ 9 < q) :
    Calls Try.prog 4 #[.slice a n c, .slice b m d, .int .i64 p, .int .i64 q] w fun e w' => e = .returned (.bool true) ∧ Below w.heap.size w w' := by
  have g := guard_yes a b n c m d p q w (by omega)
  have dx : decide ((524288 : Int) < (n : Int)) = false := decide_eq_false (by omega)
  have dy : decide ((524288 : Int) < (m : Int)) = false := decide_eq_false (by omega)
  by_cases k1 : p < 0
  · clear h
    go_enter Try.func4, Try.ntmps4
    go_wp2_with fail
    refine g.mono ?_
    rintro e w' ⟨rfl, rfl⟩
    go_wp2
    go_ret
    exact ⟨rfl, Below.refl _ _⟩
  have d1 : decide (p < 0) = false := decide_eq_false k1
  by_cases k2 : 9 < p
  · clear h
    go_enter Try.func4, Try.ntmps4
    go_wp2_with fail
    refine g.mono ?_
    rintro e w' ⟨rfl, rfl⟩
    go_wp2
    go_ret
    exact ⟨rfl, Below.refl _ _⟩
  have d2 : decide (9 < p) = false := decide_eq_false k2
  by_cases k3 : q < 0
  · clear h
    go_enter Try.func4, Try.ntmps4
    go_wp2_with fail
    refine g.mono ?_
    rintro e w' ⟨rfl, rfl⟩
    go_wp2
    go_ret
    exact ⟨rfl, Below.refl _ _⟩
  have d3 : decide (q < 0) = false := decide_eq_false k3
  have k4 : 9 < q := by omega
  clear h
  go_enter Try.func4, Try.ntmps4
  go_wp2_with fail
  refine g.mono ?_
  rintro e w' ⟨rfl, rfl⟩
  go_wp2
  go_ret
  exact ⟨rfl, Below.refl _ _⟩

set_option maxRecDepth 100000 in
set_option maxHeartbeats 8000000 in
theorem build_in (a b : Option Addr) (n c m d : Nat) (p q : Int) (ms ts : List Int) (w : World) (hx : Row w a n ms) (hy : Row w b m ts) (h1 : n ≤ 524288) (h2 : m ≤ 524288) (p0 : 0 ≤ p) (p1 : p ≤ 9) (q0 : 0 ≤ q) (q1 : q ≤ 9) :
    Calls Try.prog 4 #[.slice a n c, .slice b m d, .int .i64 p, .int .i64 q] w fun e w' => e = .returned (.bool true) ∧ Below w.heap.size w w' := by
  have g := guard_yes a b n c m d p q w (by omega)
  have dx : decide ((524288 : Int) < (n : Int)) = false := decide_eq_false (by omega)
  have dy : decide ((524288 : Int) < (m : Int)) = false := decide_eq_false (by omega)
  have d1 : decide (p < 0) = false := decide_eq_false (by omega)
  have d2 : decide (9 < p) = false := decide_eq_false (by omega)
  have d3 : decide (q < 0) = false := decide_eq_false (by omega)
  have d4 : decide (9 < q) = false := decide_eq_false (by omega)
  have at1 := allTchar_any a n c ms w hx (by omega)
  have av1 := allVisible_any b m d ts w hy (by omega)
  go_enter Try.func4, Try.ntmps4
  go_wp2_with fail
  refine g.mono ?_
  rintro e w' ⟨rfl, rfl⟩
  clear g
  go_wp2_with fail
  refine at1.mono ?_
  rintro e w' ⟨r, rfl, hr, rfl⟩
  clear at1
  cases r with
  | false =>
    clear hr av1
    go_wp2
    go_ret
    exact ⟨rfl, Below.refl _ _⟩
  | true =>
  have hT := hr rfl
  clear hr
  go_wp2_with fail
  refine av1.mono ?_
  rintro e w' ⟨r, rfl, hr, rfl⟩
  clear av1
  cases r with
  | false =>
    clear hr hT
    go_wp2
    go_ret
    exact ⟨rfl, Below.refl _ _⟩
  | true =>
  have hV := hr rfl
  clear hr
  obtain ⟨hT, n0⟩ := hT
  obtain ⟨hV, m0⟩ := hV
  have HT := show Hid _ from hT
  have HV := show Hid _ from hV
  clear hT hV dx dy d1 d2 d3 d4
  have lx := hx.len
  have ly := hy.len
  have LX := show Hid _ from lx
  have LY := show Hid _ from ly
  clear lx ly
  -- the clones
  have cl1 := clone_any a n c ms w hx (by omega) n0
  go_wp2_with fail
  refine cl1.mono ?_
  rintro e w1 ⟨rfl, hw1⟩
  clear cl1
  have hr1 : Row w1 (some ⟨w.heap.size, 0, none⟩) n ms := by rw [hw1]; exact buf_row w ms n LX.out hx.wf
  have B1 : Below w.heap.size w w1 := by rw [hw1]; exact (Below.refl _ _).alloc (Nat.le_refl _) _
  have s1 : w.heap.size + 1 = w1.heap.size := by rw [hw1, World.size_alloc]
  clear hw1 hx
  have cl2 := clone_any b m d ts w1 (hy.below B1) (by omega) m0
  go_wp2_with fail
  refine cl2.mono ?_
  rintro e w2 ⟨rfl, hw2⟩
  clear cl2
  have hr2 : Row w2 (some ⟨w1.heap.size, 0, none⟩) m ts := by rw [hw2]; exact buf_row w1 ts m LY.out hy.wf
  have B2' : Below w1.heap.size w1 w2 := by rw [hw2]; exact (Below.refl _ _).alloc (Nat.le_refl _) _
  have s2 : w1.heap.size + 1 = w2.heap.size := by rw [hw2, World.size_alloc]
  have hr1' := hr1.below B2'
  have B2 : Below w.heap.size w w2 := B1.trans (B2'.mono (by omega))
  clear hw2 hy hr1 B1 B2'
  -- the line
  have hmk : ∀ w : World, (Instr.makeSlice 22 (.int .i64 0) (.int .i64 ((n : Int) + (m : Int) + 10))).run Try.prog w = .ok (.slice (some ⟨w.heap.size, 0, none⟩) 0 (n + m + 10)) (w.alloc (.cells (madeCells #[.int .u8 0] (n + m + 10)) 5)) := by
    intro w
    obtain ⟨i0, hi, hz0, hz1, hz2⟩ := info_parts info5
    have h := run_make (P := Try.prog) w 22 5 i0 _ Try.underlying22 hi hz0 .i64 .i64 0 ((n : Int) + m + 10) (by omega) (by omega) (by rw [hz2]; omega) (by omega)
    have et : ((n : Int) + m + 10).toNat = n + m + 10 := by omega
    rw [h, hz1, et]
    simp only [Nat.mul_one]
    rfl
  have hb0 := Buf.made w2 w2.heap.size (n + m + 10) (Nat.le_refl _) (by unfold maxLen; omega)
  have hr1a := hr1'.below ((Below.refl _ _).alloc (Nat.le_refl _) (.cells (madeCells #[.int .u8 0] (n + m + 10)) 5))
  have hr2a := hr2.below ((Below.refl _ _).alloc (Nat.le_refl _) (.cells (madeCells #[.int .u8 0] (n + m + 10)) 5))
  go_wp2_with (at_builtin; refine app_row rfl (.tmp 62) (.tmp 63) rfl w2.heap.size _ _ _ [] rfl hb0 _ n n ms rfl hr1a (by simp) (by omega) (by simp) ?_)
  intro ao1 cap1 w3 hb1 hg1
  try simp only [Nat.zero_add, List.nil_append] at hb1
  have B3 : Below w2.heap.size w2 w3 := ((Below.refl _ _).alloc (Nat.le_refl _) _).trans (hg1.below (by simp) (fun k hk => by cases hk; exact Nat.le_refl _))
  have s3 := B3.size
  clear hmk hb0 hr1a hr2a hg1
  go_wp2_with (at_builtin; refine app rfl (.tmp 65) (.tmp 66) rfl w2.heap.size _ _ _ _ rfl (hb1.alloc _) ⟨w3.heap.size, 0, none⟩ 1 1 [32] rfl rfl ?c1 ?c2 ?c3 ?c4 ?_)
  case c1 => intro j hj; match j, hj with | 0, _ => simp [Addr.add]
  case c2 => intro y hy; simp at hy; omega
  case c3 => omega
  case c4 => simp; omega
  intro ao2 cap2 w4 hb2 hg2
  have B4 : Below w2.heap.size w2 w4 := (B3.alloc (by omega) _).trans (hg2.below (by simp; omega) hb1.base)
  have s4 := B4.size
  clear hg2 hb1 B3
  have hr2b := hr2.below B4
  go_wp2_with (at_builtin; refine app_row rfl (.tmp 68) (.tmp 69) rfl w2.heap.size _ _ _ _ rfl hb2 _ m m ts rfl hr2b (by simp) (by omega) (by omega) ?_)
  intro ao3 cap3 w5 hb3 hg3
  have B5 : Below w2.heap.size w2 w5 := B4.trans (hg3.below (by omega) hb2.base)
  have s5 := B5.size
  clear hg3 hb2 B4 hr2b
  go_wp2_with (at_builtin; refine app rfl (.tmp 71) (.tmp 78) rfl w2.heap.size _ _ _ _ rfl (hb3.alloc _) ⟨w5.heap.size, 0, none⟩ 9 9 [32, 72, 84, 84, 80, 47, 48 + p, 46, 48 + q] rfl rfl ?e1 ?e2 ?e3 ?e4 ?_)
  case e1 =>
    intro j hj
    match j, hj with
    | 0, _ => simp [Addr.add]
    | 1, _ => simp [Addr.add]
    | 2, _ => simp [Addr.add]
    | 3, _ => simp [Addr.add]
    | 4, _ => simp [Addr.add]
    | 5, _ => simp [Addr.add]
    | 6, _ => simp [Addr.add]
    | 7, _ => simp [Addr.add]
    | 8, _ => simp [Addr.add]
  case e2 => intro y hy; simp at hy; omega
  case e3 => omega
  case e4 => simp; omega
  intro ao4 cap4 w6 hb4 hg4
  have B6 : Below w2.heap.size w2 w6 := (B5.alloc (by omega) _).trans (hg4.below (by simp; omega) hb3.base)
  have s6 := B6.size
  clear hg4 hb3 B5
  obtain ⟨gg, rfl, hle, hmax⟩ := hb4.spot (by omega)
  have hrow : Row w6 (some ⟨gg, 0, none⟩) (n + 1 + m + 9) (ms ++ 32 :: (ts ++ 32 :: ver p q)) := by
    have := hb4.row
    simpa [ver] using this
  clear hb4
  have par := zzParse_any gg 0 (n + 1 + m + 9) cap4 ms ts p q w6 hrow (by omega) hle hmax HT.out HV.out (by rw [LX.out]; exact n0) (by rw [LY.out]; exact m0) p0 p1 q0 q1
  rw [LX.out, LY.out] at par
  unfold maxLen at hmax
  go_wp2_with fail
  refine par.mono ?_
  rintro e w7 ⟨rfl, hb7⟩
  clear par
  have hrow7 := hrow.below hb7
  have s7 := hb7.size
  have B7 : Below w2.heap.size w2 w7 := B6.trans (hb7.mono (by omega))
  clear hrow hb7 B6
  have hm7 : Row w7 (some ⟨gg, 0, none⟩) n ms := by have := hrow7.front; rw [LX.out] at this; exact this
  have ht7 : Row w7 (some ⟨gg, n + 1, none⟩) m ts := by
    have h1 := Row.drop (xs := ms ++ [32]) (ys := ts ++ 32 :: ver p q) (by simpa using hrow7)
    have h2 := h1.front
    rw [LY.out] at h2
    simp only [List.length_append, List.length_cons, List.length_nil, LX.out, Nat.zero_add] at h2
    exact h2
  clear hrow7
  have eq1 := eq_any _ _ n cap4 n ms w7 hm7 (hr1'.below B7) (by omega) n0
  have eq2 := fun w8 (hb8 : Below w7.heap.size w7 w8) => eq_any _ _ m (cap4 - (n + 1)) m ts w8 (ht7.below hb8) ((hr2.below B7).below hb8) (by omega) m0
  clear hm7 ht7
  go_wp2_with fail
  refine eq1.mono ?_
  rintro e w8 ⟨rfl, q8, hw8⟩
  have b8 : Below w7.heap.size w7 w8 := by rw [hw8]; exact below_drewN (Below.refl _ _) _
  have B8 : Below w2.heap.size w2 w8 := B7.trans (b8.mono (by omega))
  have EQ2 := eq2 w8 b8
  have s8 := b8.size
  clear eq1 eq2 hw8
  go_wp2_with fail
  refine EQ2.mono ?_
  rintro e w9 ⟨rfl, q9, hw9⟩
  have B9 : Below w2.heap.size w2 w9 := by rw [hw9]; exact below_drewN B8 _
  clear EQ2 hw9
  go_wp2
  go_ret
  exact ⟨rfl, B2.trans (B9.mono (by omega))⟩
end Go.Proofs.Qxb6601856a.Base
