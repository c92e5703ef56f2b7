import Derived.Test.Qxb6600315aMono
namespace Go.Proofs.Qxb6600315a.Base
open Go.RowKit
set_option linter.unusedVariables false
set_option linter.unusedSimpArgs false

theorem cl_all (n : Nat) : cl (n : Int) n = n := by unfold cl; omega

/-- The law itself, on lists. -/
theorem line_append (xs ys : List Int) (o : Int) (h0 : 0 ≤ o) : line (xs ++ ys) ((xs.length : Int) + o) = line xs (xs.length : Int) + line ys o - 1 := by
  unfold line
  rw [cl_all, List.take_length]
  have e : cl ((xs.length : Int) + o) (xs ++ ys).length = xs.length + cl o ys.length := by unfold cl; simp only [List.length_append]; omega
  rw [e, List.take_length_add_append]
  unfold nl
  rw [List.count_append]
  omega

/-- The new array behind k of a's and j of b's rounds is 'buf' of the joined list. -/
theorem getD_left (xs ys : List Int) (k : Nat) (hk : k < xs.length) : (xs ++ ys).getD k 0 = xs.getD k 0 := by
  simp [List.getElem?_append, hk]
theorem getD_right (xs ys : List Int) (k : Nat) (hk : k < ys.length) : (xs ++ ys).getD (xs.length + k) 0 = ys.getD k 0 := by
  simp [List.getElem?_append, hk]

theorem buf_at (zs : List Int) (k : Nat) (hk : k < zs.length) : (buf zs k)[k]? = some (.int .u8 0) := by
  rw [← Array.getElem?_toList, buf_get, if_pos hk, if_neg (by omega)]

set_option maxHeartbeats 1000000 in
theorem guard17 (a b : Option Addr) (n c m d : Nat) (o : Int) (w : World) (hn : n + m ≤ 1048576) :
    Calls Try.prog 17 #[.slice a n c, .slice b m d, .int .i64 o] w fun e w' => e = .returned (.bool true) ∧ w' = w := by
  go_enter Try.func17, Try.ntmps17
  go_wp2
  go_ret
  exact ⟨rfl, rfl⟩

set_option maxHeartbeats 1000000 in
theorem guard17_no (a b : Option Addr) (n c m d : Nat) (o : Int) (w : World) (hn : 1048576 < n + m) (hc : n ≤ maxLen) (hd : m ≤ maxLen) :
    Calls Try.prog 17 #[.slice a n c, .slice b m d, .int .i64 o] w fun e w' => e = .returned (.bool false) ∧ w' = w := by
  unfold maxLen at hc hd
  by_cases h1 : 1048576 < n
  · go_enter Try.func17, Try.ntmps17
    go_wp2
    go_ret
    exact ⟨rfl, rfl⟩
  · by_cases h2 : 1048576 < m
    · go_enter Try.func17, Try.ntmps17
      go_wp2
      go_ret
      exact ⟨rfl, rfl⟩
    · go_enter Try.func17, Try.ntmps17
      go_wp2
      go_ret
      exact ⟨rfl, rfl⟩

set_option maxHeartbeats 1000000 in
theorem split_great (a b : Option Addr) (n c m d : Nat) (o : Int) (w : World) (hn : 1048576 < n + m) (hc : n ≤ maxLen) (hd : m ≤ maxLen) :
    Calls Try.prog 7 #[.slice a n c, .slice b m d, .int .i64 o] w fun e w' => e = .returned (.bool true) ∧ Below w.heap.size w w' := by
  have g := guard17_no a b n c m d o w hn hc hd
  go_enter Try.func7, Try.ntmps7
  go_wp2_with fail
  refine g.mono ?_
  rintro e w' ⟨rfl, rfl⟩
  go_wp2
  go_ret
  exact ⟨rfl, Below.refl _ _⟩

set_option maxHeartbeats 1000000 in
theorem split_out (a b : Option Addr) (n c m d : Nat) (o : Int) (w : World) (hn : n + m ≤ 1048576) (ho : o < 0 ∨ 4611686018427387904 < o) :
    Calls Try.prog 7 #[.slice a n c, .slice b m d, .int .i64 o] w fun e w' => e = .returned (.bool true) ∧ Below w.heap.size w w' := by
  have g := guard17 a b n c m d o w hn
  rcases ho with ho | ho
  · go_enter Try.func7, Try.ntmps7
    go_wp2_with fail
    refine g.mono ?_
    rintro e w' ⟨rfl, rfl⟩
    go_wp2
    go_ret
    exact ⟨rfl, Below.refl _ _⟩
  · have h0 : ¬ o < 0 := by omega
    go_enter Try.func7, Try.ntmps7
    go_wp2_with fail
    refine g.mono ?_
    rintro e w' ⟨rfl, rfl⟩
    go_wp2
    go_ret
    exact ⟨rfl, Below.refl _ _⟩

set_option maxHeartbeats 2000000 in
theorem split_in (a b : Option Addr) (n c m d : Nat) (o : Int) (xs ys : List Int) (w : World) (hrx : Row w a n xs) (hry : Row w b m ys) (hn : n + m ≤ 1048576) (ho : 0 ≤ o) (ho2 : o ≤ 4611686018427387904) :
    Calls Try.prog 7 #[.slice a n c, .slice b m d, .int .i64 o] w fun e w' => e = .returned (.bool true) ∧ Below w.heap.size w w' := by
  have g := guard17 a b n c m d o w hn
  have cx := clone_any a n c xs w hrx (by omega)
  have cy := fun w1 (hr : Row w1 b m ys) => clone_any b m d ys w1 hr (by omega)
  have hlx := hrx.len
  have hly := hry.len
  clear hrx
  go_enter Try.func7, Try.ntmps7
  go_wp2_with fail
  refine g.mono ?_
  rintro e w' ⟨rfl, rfl⟩
  go_wp2_with fail
  refine cx.mono ?_
  rintro e w1 ⟨a', c', rfl, hc', hcm', hrx, hb1⟩
  clear g cx
  go_wp2_with fail
  refine (cy w1 (hry.below hb1)).mono ?_
  rintro e w2 ⟨b', d', rfl, hd', hdm', hry', hb2⟩
  clear cy hry
  have hrx2 := hrx.below hb2
  clear hrx
  have hB := hb1.trans (hb2.mono hb1.size)
  have hs := hB.size
  have hmk : ∀ w : World, (Instr.makeSlice 27 (.int .i64 ((n : Int) + (m : Int))) (.int .i64 ((n : Int) + (m : Int)))).run Try.prog w = .ok (.slice (some ⟨w.heap.size, 0, none⟩) (n + m) (n + m)) (w.alloc (.cells (buf (xs ++ ys) 0) 5)) := by
    intro w
    obtain ⟨i0, hi, hz0, hz1, hz2⟩ := info_parts info5
    have h := run_make (P := Try.prog) w 27 5 i0 _ Try.underlying27 hi hz0 .i64 .i64 ((n : Int) + m) ((n : Int) + m) (by omega) (by omega) (by rw [hz2]; omega) (by omega)
    have et : ((n : Int) + m).toNat = n + m := by omega
    rw [h, hz1, buf_zero, List.length_append, hlx, hly, et]
    simp only [Nat.mul_one]
    rfl
  go_wp2_with fail
  go_loopw [8] (fun i wr => ∃ k : Nat, k ≤ n ∧ i = .int .i64 k ∧ wr = w2.alloc (.cells (buf (xs ++ ys) k) 5)) (fun i _ => n - (intOf i).toNat)
  case atStart => exact ⟨0, Nat.zero_le _, rfl, rfl⟩
  case round =>
    obtain ⟨k, hk, rfl, rfl⟩ := hrel
    by_cases hlt : k < n
    · obtain ⟨bb, off, he, hbl, hcell⟩ := hrx2.at (by omega)
      subst he
      have hck := hcell k hlt
      have hst := buf_step (xs ++ ys) k (by simp; omega)
      have hsz := buf_at (xs ++ ys) k (by simp; omega)
      rw [getD_left xs ys k (by omega)] at hst
      generalize xs.getD k 0 = x at hck hst
      clear hcell hmk
      go_wp2
      go_roundw
      case rel => exact ⟨k + 1, by omega, by go_num, rfl⟩
      case measure => simp [intOf]; omega
    · obtain rfl : k = n := by omega
      clear hmk
      go_wp2_with fail
      go_loopw [9] (fun i wr => ∃ j : Nat, j ≤ m ∧ i = .int .i64 j ∧ wr = w2.alloc (.cells (buf (xs ++ ys) (k + j)) 5)) (fun i _ => m - (intOf i).toNat)
      case atStart => exact ⟨0, Nat.zero_le _, rfl, rfl⟩
      case round =>
        obtain ⟨j, hj, rfl, rfl⟩ := hrel
        by_cases hlt2 : j < m
        · obtain ⟨bb, off, he, hbl, hcell⟩ := hry'.at (by omega)
          subst he
          have hck := hcell j hlt2
          have hst := buf_step (xs ++ ys) (k + j) (by simp; omega)
          have hsz := buf_at (xs ++ ys) (k + j) (by simp; omega)
          rw [← hlx, getD_right xs ys j (by omega), hlx] at hst
          generalize ys.getD j 0 = x at hck hst
          have et : ((k : Int) + (j : Int)).toNat = k + j := by omega
          clear hcell
          go_wp2
          go_roundw
          case rel => exact ⟨j + 1, by omega, by go_num, rfl⟩
          case measure => simp [intOf]; omega
        · obtain rfl : j = m := by omega
          have hwz : ∀ x ∈ xs ++ ys, 0 ≤ x ∧ x < 256 := fun x hx => by
            rcases List.mem_append.1 hx with h | h
            · exact hrx2.wf x h
            · exact hry'.wf x h
          have hrz := buf_row w2 (xs ++ ys) (k + j) (by simp; omega) hwz
          have hkj : k + j ≤ maxLen := by unfold maxLen; omega
          have hb3 : Below w2.heap.size w2 (w2.alloc (.cells (buf (xs ++ ys) (k + j)) 5)) := (Below.refl _ w2).alloc (Nat.le_refl _) _
          have hrx3 := hrx2.below hb3
          have hry3 := hry'.below hb3
          have hB3 := hB.trans (hb3.mono hs)
          have hs3 := hB3.size
          have q1 := zzLineAt_any _ _ (k + j) ((k : Int) + o) _ _ hrz (by omega) (by omega) hkj
          have law : Hid (line (xs ++ ys) ((k : Int) + o) = line xs (k : Int) + line ys o - 1) := by
            have := line_append xs ys o ho
            rw [hlx] at this
            exact this
          have lx := line_lo xs (k : Int)
          have lx2 := line_hi xs (k : Int)
          have ly := line_lo ys o
          have ly2 := line_hi ys o
          rw [hlx] at lx2
          rw [hly] at ly2
          clear hrx2 hry' hwz hrz hb3 hB hb1 hb2 hkj hlx hly hlt hlt2
          go_wp2_with fail
          refine q1.mono ?_
          rintro e w4 ⟨rfl, hb4⟩
          clear q1
          go_wp2_with fail
          have hrx4 := hrx3.below hb4
          have hry4 := hry3.below hb4
          have q2 := zzLineAt_any _ _ c' (k : Int) _ _ hrx4 (by omega) hc' hcm'
          refine q2.mono ?_
          rintro e w5 ⟨rfl, hb5⟩
          clear q2
          go_wp2_with fail
          have hry5 := hry4.below hb5
          have q3 := zzLineAt_any _ _ d' o _ _ hry5 (by omega) hd' hdm'
          refine q3.mono ?_
          rintro e w6 ⟨rfl, hb6⟩
          clear q3
          have hB6 := (hB3.trans (hb4.mono hs3)).trans ((hb5.trans (hb6.mono hb5.size)).mono (Nat.le_trans hs3 hb4.size))
          rw [law.out]
          go_wp2
          go_ret
          exact ⟨by simp, hB6⟩

theorem split_small (a b : Option Addr) (n c m d : Nat) (o : Int) (xs ys : List Int) (w : World) (hrx : Row w a n xs) (hry : Row w b m ys) (hn : n + m ≤ 1048576) (_ho : (Lit.int .i64 o).wf = true) :
    Calls Try.prog 7 #[.slice a n c, .slice b m d, .int .i64 o] w fun e w' => e = .returned (.bool true) ∧ Below w.heap.size w w' := by
  by_cases h : 0 ≤ o ∧ o ≤ 4611686018427387904
  · exact split_in a b n c m d o xs ys w hrx hry hn h.1 h.2
  · exact split_out a b n c m d o w hn (by omega)
end Go.Proofs.Qxb6600315a.Base
