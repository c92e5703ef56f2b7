import Derived.Test.Qxb6600588aBuf
namespace Go.Proofs.Qxb6600588a.Base
open Go.RowKit
set_option linter.unusedVariables false
set_option linter.unusedSimpArgs false

/-- zzShort's answer. -/
def short (c : Int) : Int := if c = 8 then 98 else if c = 9 then 116 else if c = 10 then 110 else if c = 12 then 102 else if c = 13 then 114 else 0

theorem short_bd (c : Int) : 0 ≤ short c ∧ short c < 256 := by unfold short; split <;> (try split) <;> (try split) <;> (try split) <;> (try split) <;> omega

set_option maxHeartbeats 1000000 in
theorem short_any (c : Int) (w : World) :
    Calls Try.prog 24 #[.int .u8 c] w fun e w' => e = .returned (.int .u8 (short c)) ∧ w = w' := by
  unfold short
  by_cases h1 : c = 8
  · subst h1; go_enter Try.func24, Try.ntmps24; go_wp2; go_ret; exact ⟨rfl, rfl⟩
  have g1 : (c == 8) = false := by simpa using h1
  by_cases h2 : c = 9
  · subst h2; go_enter Try.func24, Try.ntmps24; go_wp2; go_ret; exact ⟨rfl, rfl⟩
  have g2 : (c == 9) = false := by simpa using h2
  by_cases h3 : c = 10
  · subst h3; go_enter Try.func24, Try.ntmps24; go_wp2; go_ret; exact ⟨rfl, rfl⟩
  have g3 : (c == 10) = false := by simpa using h3
  by_cases h4 : c = 12
  · subst h4; go_enter Try.func24, Try.ntmps24; go_wp2; go_ret; exact ⟨rfl, rfl⟩
  have g4 : (c == 12) = false := by simpa using h4
  by_cases h5 : c = 13
  · subst h5; go_enter Try.func24, Try.ntmps24; go_wp2; go_ret; exact ⟨rfl, rfl⟩
  have g5 : (c == 13) = false := by simpa using h5
  rw [if_neg h1, if_neg h2, if_neg h3, if_neg h4, if_neg h5]
  go_enter Try.func24, Try.ntmps24
  go_wp2
  go_ret
  exact ⟨rfl, rfl⟩

/-- zzHex's answer. -/
def hex (d : Int) (u : Bool) : Int := if d < 10 then 48 + d else if u then 55 + d else 87 + d

theorem hex_bd (d : Int) (u : Bool) (h0 : 0 ≤ d) (h1 : d ≤ 15) : 48 ≤ hex d u ∧ hex d u ≤ 102 ∧ hex d u ≠ 92 := by unfold hex; cases u <;> simp <;> omega

set_option maxHeartbeats 1000000 in
theorem hex_any (d : Int) (u : Bool) (w : World) (h0 : 0 ≤ d) (h1 : d ≤ 15) :
    Calls Try.prog 25 #[.int .u8 d, .bool u] w fun e w' => e = .returned (.int .u8 (hex d u)) ∧ w = w' := by
  unfold hex
  by_cases h : d < 10
  · go_enter Try.func25, Try.ntmps25
    go_wp2
    go_ret
    exact ⟨ret_int (by first | rfl | omega), rfl⟩
  · cases u
    all_goals
      go_enter Try.func25, Try.ntmps25
      go_wp2
      go_ret
      exact ⟨ret_int (by first | rfl | omega), rfl⟩
end Go.Proofs.Qxb6600588a.Base
