import Derived.Test.Qxb6601856aBase
namespace Go.Proofs.Qxb6601856a.Base
open Go.RowKit
set_option linter.unusedVariables false
set_option linter.unusedSimpArgs false

theorem getD_getElem (ys : List Int) (j : Nat) (hj : j < ys.length) : ys.getD j 0 = ys[j] := by
  rw [List.getD_eq_getElem?_getD, List.getElem?_eq_getElem hj, Option.getD_some]

theorem all_of (P : Int → Prop) (xs : List Int) (h : ∀ j, j < xs.length → P (xs.getD j 0)) : ∀ x ∈ xs, P x := by
  intro x hx
  obtain ⟨j, hj, rfl⟩ := List.getElem_of_mem hx
  have := h j hj
  rw [getD_getElem xs j hj] at this
  exact this

set_option maxRecDepth 100000 in
set_option maxHeartbeats 4000000 in
/-- hsAllTchar. -/
theorem allTchar_any (a : Option Addr) (n c : Nat) (xs : List Int) (w : World) (hr : Row w a n xs) (hn : n ≤ 1048576) :
    Calls Try.prog 14 #[.slice a n c] w (BPost ((∀ x ∈ xs, Tch x) ∧ 0 < n) w) := by
  by_cases hp : 0 < n
  · obtain ⟨b, off, rfl, hb, hc⟩ := hr.at hp
    have hl := show Hid _ from hr.len
    have HC := show Hid _ from hc
    clear hr hc
    go_enter Try.func14, Try.ntmps14
    go_wp2
    go_loop [3] (fun i => ∃ k : Nat, k ≤ n ∧ i = .int .i64 k ∧ Hid (∀ j, j < k → Tch (xs.getD j 0))) (fun i => n - (intOf i).toNat)
    case atStart => exact ⟨0, Nat.zero_le _, rfl, fun j hj => by omega⟩
    case round =>
      obtain ⟨k, hk, rfl, hall⟩ := hrel
      by_cases hlt : k < n
      · have hck := HC.out k hlt
        have ht := tchar_any (xs.getD k 0) w
        go_wp2_with fail
        refine ht.mono ?_
        rintro e w' ⟨r, rfl, hT, rfl⟩
        cases r with
        | false =>
          clear hT
          go_wp2
          go_ret
          exact ⟨false, rfl, (fun k => by cases k), rfl⟩
        | true =>
          have HT := show Hid _ from hT rfl
          clear hT
          go_wp2
          go_round
          case rel => exact ⟨k + 1, by omega, by go_num, fun j hj => by
            by_cases e : j = k
            · rw [e]; exact HT.out
            · exact hall.out j (by omega)⟩
          case measure => simp [intOf]; omega
      · obtain rfl : k = n := by omega
        go_wp2
        go_ret
        exact ⟨true, rfl, (fun _ => all_of _ _ (by rw [hl.out]; exact hall.out)), rfl⟩
  · obtain rfl : n = 0 := by omega
    clear hr
    go_enter Try.func14, Try.ntmps14
    go_wp2
    refine wp_loop_rounds 1 ?_
    rw [rounds_succ]
    go_wp2
    go_ret
    exact ⟨false, rfl, (fun k => by cases k), rfl⟩

set_option maxRecDepth 100000 in
set_option maxHeartbeats 4000000 in
/-- hsAllVisible. -/
theorem allVisible_any (a : Option Addr) (n c : Nat) (xs : List Int) (w : World) (hr : Row w a n xs) (hn : n ≤ 1048576) :
    Calls Try.prog 15 #[.slice a n c] w (BPost ((∀ x ∈ xs, Vis x) ∧ 0 < n) w) := by
  by_cases hp : 0 < n
  · obtain ⟨b, off, rfl, hb, hc⟩ := hr.at hp
    have hl := show Hid _ from hr.len
    have HC := show Hid _ from hc
    clear hr hc
    go_enter Try.func15, Try.ntmps15
    go_wp2
    go_loop [3] (fun i => ∃ k : Nat, k ≤ n ∧ i = .int .i64 k ∧ Hid (∀ j, j < k → Vis (xs.getD j 0))) (fun i => n - (intOf i).toNat)
    case atStart => exact ⟨0, Nat.zero_le _, rfl, fun j hj => by omega⟩
    case round =>
      obtain ⟨k, hk, rfl, hall⟩ := hrel
      by_cases hlt : k < n
      · have hck := HC.out k hlt
        have ht := vis_any (xs.getD k 0) w
        go_wp2_with fail
        refine ht.mono ?_
        rintro e w' ⟨r, rfl, hT, rfl⟩
        cases r with
        | false =>
          clear hT
          go_wp2
          go_ret
          exact ⟨false, rfl, (fun k => by cases k), rfl⟩
        | true =>
          have HT := show Hid _ from hT rfl
          clear hT
          go_wp2
          go_round
          case rel => exact ⟨k + 1, by omega, by go_num, fun j hj => by
            by_cases e : j = k
            · rw [e]; exact HT.out
            · exact hall.out j (by omega)⟩
          case measure => simp [intOf]; omega
      · obtain rfl : k = n := by omega
        go_wp2
        go_ret
        exact ⟨true, rfl, (fun _ => all_of _ _ (by rw [hl.out]; exact hall.out)), rfl⟩
  · obtain rfl : n = 0 := by omega
    clear hr
    go_enter Try.func15, Try.ntmps15
    go_wp2
    refine wp_loop_rounds 1 ?_
    rw [rounds_succ]
    go_wp2
    go_ret
    exact ⟨false, rfl, (fun k => by cases k), rfl⟩
end Go.Proofs.Qxb6601856a.Base
