import Derived.Test.Qxb6600315aClone
namespace Go.Proofs.Qxb6600315a.Base
open Go.RowKit
set_option linter.unusedVariables false
set_option linter.unusedSimpArgs false

theorem nl_mono (xs : List Int) (i j : Nat) (h : i ≤ j) : nl (xs.take i) ≤ nl (xs.take j) := by
  have e : xs.take i = (xs.take j).take i := by rw [List.take_take, Nat.min_eq_left h]
  rw [e]
  exact (List.take_sublist i (xs.take j)).count_le 10

theorem line_lo (xs : List Int) (o : Int) : 1 ≤ line xs o := by unfold line; omega
theorem line_hi (xs : List Int) (o : Int) : line xs o ≤ xs.length + 1 := by
  unfold line
  have := nl_le (xs.take (cl o xs.length))
  simp at this
  omega
theorem line_mono (xs : List Int) (o1 o2 : Int) (h : o1 ≤ o2) : line xs o1 ≤ line xs o2 := by
  unfold line
  have := nl_mono xs (cl o1 xs.length) (cl o2 xs.length) (by unfold cl; omega)
  omega
theorem line_neg (xs : List Int) (o : Int) (h : o ≤ 0) : line xs o = 1 := by
  unfold line
  have : cl o xs.length = 0 := by unfold cl; omega
  rw [this]
  rfl

set_option maxHeartbeats 1000000 in
theorem guard16 (a : Option Addr) (n c : Nat) (o p : Int) (w : World) (hn : n ≤ 1048576) :
    Calls Try.prog 16 #[.slice a n c, .int .i64 o, .int .i64 p] w fun e w' => e = .returned (.bool true) ∧ w' = w := by
  go_enter Try.func16, Try.ntmps16
  go_wp2
  go_ret
  exact ⟨rfl, rfl⟩

set_option maxHeartbeats 1000000 in
theorem guard16_no (a : Option Addr) (n c : Nat) (o p : Int) (w : World) (hn : 1048576 < n) (hc : n ≤ maxLen) :
    Calls Try.prog 16 #[.slice a n c, .int .i64 o, .int .i64 p] w fun e w' => e = .returned (.bool false) ∧ w' = w := by
  unfold maxLen at hc
  go_enter Try.func16, Try.ntmps16
  go_wp2
  go_ret
  exact ⟨rfl, rfl⟩

set_option maxHeartbeats 1000000 in
theorem mono_great (a : Option Addr) (n c : Nat) (o p : Int) (w : World) (hn : 1048576 < n) (hc : n ≤ maxLen) :
    Calls Try.prog 6 #[.slice a n c, .int .i64 o, .int .i64 p] w fun e w' => e = .returned (.bool true) ∧ Below w.heap.size w w' := by
  have g := guard16_no a n c o p w hn hc
  go_enter Try.func6, Try.ntmps6
  go_wp2_with fail
  refine g.mono ?_
  rintro e w' ⟨rfl, rfl⟩
  go_wp2
  go_ret
  exact ⟨rfl, Below.refl _ _⟩

set_option maxHeartbeats 1000000 in
theorem mono_small (a : Option Addr) (n c : Nat) (o p : Int) (xs : List Int) (w : World) (hr : Row w a n xs) (hn : n ≤ 1048576) :
    Calls Try.prog 6 #[.slice a n c, .int .i64 o, .int .i64 p] w fun e w' => e = .returned (.bool true) ∧ Below w.heap.size w w' := by
  have g := guard16 a n c o p w hn
  have cc := clone_any a n c xs w hr hn
  have hl := hr.len
  clear hr
  obtain ⟨u, v, hu, hv, huv⟩ : ∃ u v, u = min o p ∧ v = max o p ∧ u ≤ v := ⟨_, _, rfl, rfl, by omega⟩
  have l1 := line_lo xs u
  have l2 := line_hi xs v
  have l3 := line_mono xs u v huv
  have l4 : Hid (u ≤ 0 → line xs u = 1) := line_neg xs u
  rw [hl] at l2
  clear hl
  by_cases hop : p < o
  · obtain rfl : u = p := by omega
    obtain rfl : v = o := by omega
    clear hu hv
    go_enter Try.func6, Try.ntmps6
    go_wp2_with fail
    refine g.mono ?_
    rintro e w' ⟨rfl, rfl⟩
    go_wp2_with fail
    refine cc.mono ?_
    rintro e w1 ⟨a', c', rfl, hc', hcm', hr', hb⟩
    clear g cc
    go_wp2_with fail
    have q1 := zzLineAt_any a' n c' u xs w1 hr' hn hc' hcm'
    refine q1.mono ?_
    rintro e w2 ⟨rfl, hb2⟩
    clear q1
    go_wp2_with fail
    have q2 := zzLineAt_any a' n c' v xs w2 (hr'.below hb2) hn hc' hcm'
    refine q2.mono ?_
    rintro e w3 ⟨rfl, hb3⟩
    clear q2
    generalize line xs u = x at *
    generalize line xs v = y at *
    have hB := (hb.trans (hb2.mono hb.size)).trans (hb3.mono (Nat.le_trans hb.size hb2.size))
    by_cases hu0 : u ≤ 0
    · have hx := l4.out hu0
      subst hx
      go_wp2
      go_ret
      exact ⟨rfl, hB⟩
    · go_wp2
      go_ret
      exact ⟨rfl, hB⟩
  · obtain rfl : u = o := by omega
    obtain rfl : v = p := by omega
    clear hu hv
    go_enter Try.func6, Try.ntmps6
    go_wp2_with fail
    refine g.mono ?_
    rintro e w' ⟨rfl, rfl⟩
    go_wp2_with fail
    refine cc.mono ?_
    rintro e w1 ⟨a', c', rfl, hc', hcm', hr', hb⟩
    clear g cc
    go_wp2_with fail
    have q1 := zzLineAt_any a' n c' u xs w1 hr' hn hc' hcm'
    refine q1.mono ?_
    rintro e w2 ⟨rfl, hb2⟩
    clear q1
    go_wp2_with fail
    have q2 := zzLineAt_any a' n c' v xs w2 (hr'.below hb2) hn hc' hcm'
    refine q2.mono ?_
    rintro e w3 ⟨rfl, hb3⟩
    clear q2
    generalize line xs u = x at *
    generalize line xs v = y at *
    have hB := (hb.trans (hb2.mono hb.size)).trans (hb3.mono (Nat.le_trans hb.size hb2.size))
    by_cases hu0 : u ≤ 0
    · have hx := l4.out hu0
      subst hx
      go_wp2
      go_ret
      exact ⟨rfl, hB⟩
    · go_wp2
      go_ret
      exact ⟨rfl, hB⟩
end Go.Proofs.Qxb6600315a.Base
