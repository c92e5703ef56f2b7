import Derived.Test.Qxb6600315aClone
namespace Go.Proofs.Qxb6600315a.Base
open Go.RowKit
set_option linter.unusedVariables false
set_option linter.unusedSimpArgs false

theorem nl_snoc (xs : List Int) (k : Nat) (hk : k < xs.length) : nl (xs.take (k + 1)) = nl (xs.take k) + if xs[k] = 10 then 1 else 0 := by
  rw [List.take_succ_eq_append_getElem hk]
  unfold nl
  rw [List.count_append]
  by_cases h : xs[k] = 10 <;> simp [h]

/-- What 'want' holds behind k rounds. -/
def wantTo (xs : List Int) (o : Int) (k : Nat) : Int := 1 + nl (xs.take (min k (cl o xs.length)))

theorem wantTo_le (xs : List Int) (o : Int) (k : Nat) : 1 ≤ wantTo xs o k ∧ wantTo xs o k ≤ 1 + k := by
  unfold wantTo
  have := nl_le (xs.take (min k (cl o xs.length)))
  simp at this
  omega

theorem wantTo_end (xs : List Int) (o : Int) : wantTo xs o xs.length = line xs o := by
  unfold wantTo line
  rw [Nat.min_eq_right (cl_le _ _)]

theorem wantTo_zero (xs : List Int) (o : Int) : wantTo xs o 0 = 1 := by simp [wantTo, nl]

theorem wantTo_hit (xs : List Int) (o : Int) (k : Nat) (hk : k < xs.length) (ho : (k : Int) < o) (hx : xs[k] = 10) : wantTo xs o (k + 1) = wantTo xs o k + 1 := by
  unfold wantTo
  have h1 : min (k + 1) (cl o xs.length) = k + 1 := by unfold cl; omega
  have h2 : min k (cl o xs.length) = k := by unfold cl; omega
  rw [h1, h2, nl_snoc xs k hk, if_pos hx]
  omega

theorem wantTo_miss (xs : List Int) (o : Int) (k : Nat) (hk : k < xs.length) (hx : ¬ xs[k] = 10) : wantTo xs o (k + 1) = wantTo xs o k := by
  unfold wantTo
  by_cases ho : (k : Int) < o
  · have h1 : min (k + 1) (cl o xs.length) = k + 1 := by unfold cl; omega
    have h2 : min k (cl o xs.length) = k := by unfold cl; omega
    rw [h1, h2, nl_snoc xs k hk, if_neg hx]
    omega
  · have h1 : min (k + 1) (cl o xs.length) = min k (cl o xs.length) := by unfold cl; omega
    rw [h1]

theorem wantTo_past (xs : List Int) (o : Int) (k : Nat) (ho : ¬ (k : Int) < o) : wantTo xs o (k + 1) = wantTo xs o k := by
  unfold wantTo
  have h1 : min (k + 1) (cl o xs.length) = min k (cl o xs.length) := by unfold cl; omega
  rw [h1]

set_option maxHeartbeats 1000000 in
theorem counts_small (a : Option Addr) (n c : Nat) (o : Int) (xs : List Int) (w : World) (hr : Row w a n xs) (hn : n ≤ 1048576) :
    Calls Try.prog 5 #[.slice a n c, .int .i64 o] w fun e w' => e = .returned (.bool true) ∧ Below w.heap.size w w' := by
  have g := guard13 a n c o w hn
  have cc := clone_any a n c xs w hr hn
  have hl := hr.len
  clear hr
  go_enter Try.func5, Try.ntmps5
  go_wp2_with fail
  refine g.mono ?_
  rintro e w' ⟨rfl, rfl⟩
  go_wp2_with fail
  refine cc.mono ?_
  rintro e w1 ⟨a', c', rfl, hc', hcm', hr', hb⟩
  clear g cc
  have hcm := hcm'
  unfold maxLen at hcm
  go_wp2_with fail
  go_loop [5, 6] (fun t i => ∃ k : Nat, k ≤ n ∧ i = .int .i64 k ∧ t = .int .i64 (wantTo xs o k)) (fun _ i => n - (intOf i).toNat)
  case atStart => exact ⟨0, Nat.zero_le _, rfl, by rw [wantTo_zero]⟩
  case round =>
    obtain ⟨k, hk, rfl, rfl⟩ := hrel
    have hw := wantTo_le xs o k
    by_cases hlt : k < n
    · obtain ⟨b, off, he, hbl, hcell⟩ := hr'.at (by omega)
      subst he
      have hck := hcell k hlt
      have hkl : k < xs.length := by omega
      rw [List.getD_eq_getElem?_getD, List.getElem?_eq_getElem hkl, Option.getD_some] at hck
      clear hcell
      have H0 : Hid (¬ (k : Int) < o → wantTo xs o (k + 1) = wantTo xs o k) := wantTo_past xs o k
      have H1 : Hid ((k : Int) < o → xs[k] = 10 → wantTo xs o (k + 1) = wantTo xs o k + 1) := fun h1 h2 => wantTo_hit xs o k hkl h1 h2
      have H2 : Hid (¬ xs[k] = 10 → wantTo xs o (k + 1) = wantTo xs o k) := fun h2 => wantTo_miss xs o k hkl h2
      generalize xs[k] = x at *
      by_cases ho : (k : Int) < o
      · by_cases hx : x = 10
        · subst hx
          go_wp2
          go_round
          case rel => exact ⟨k + 1, by omega, by go_num, by rw [H1.out ho rfl]⟩
          case measure => simp [intOf]; omega
        · have hx' : (x == 10) = false := by simpa using hx
          go_wp2
          go_round
          case rel => exact ⟨k + 1, by omega, by go_num, by rw [H2.out hx]⟩
          case measure => simp [intOf]; omega
      · go_wp2
        go_round
        case rel => exact ⟨k + 1, by omega, by go_num, by rw [H0.out ho]⟩
        case measure => simp [intOf]; omega
    · obtain rfl : k = n := by omega
      have hq := zzLineAt_any a' k c' o xs w1 hr' hn hc' hcm'
      have he : wantTo xs o k = line xs o := by rw [← hl]; exact wantTo_end xs o
      rw [he]
      clear hw he
      go_wp2_with fail
      refine hq.mono ?_
      rintro e w2 ⟨rfl, hb2⟩
      go_wp2
      go_ret
      exact ⟨by simp, hb.trans (hb2.mono hb.size)⟩

set_option maxHeartbeats 1000000 in
theorem counts_great (a : Option Addr) (n c : Nat) (o : Int) (w : World) (hn : 1048576 < n) (hc : n ≤ maxLen) :
    Calls Try.prog 5 #[.slice a n c, .int .i64 o] w fun e w' => e = .returned (.bool true) ∧ Below w.heap.size w w' := by
  have g := guard13_no a n c o w hn hc
  go_enter Try.func5, Try.ntmps5
  go_wp2_with fail
  refine g.mono ?_
  rintro e w' ⟨rfl, rfl⟩
  go_wp2
  go_ret
  exact ⟨rfl, Below.refl _ _⟩
end Go.Proofs.Qxb6600315a.Base
