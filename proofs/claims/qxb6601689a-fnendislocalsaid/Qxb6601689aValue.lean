import Derived.Test.Qxb6601689aScan
namespace Go.Proofs.Qxb6601689a.Base
open Go.RowKit
set_option linter.unusedVariables false
set_option linter.unusedSimpArgs false

/-- What zzbScanValue answers. -/
def VPost (s : ByteArray) (a : Int) (w : World) (e : Ending) (w' : World) : Prop :=
  ∃ (j : Int) (ok : Bool), e = .returned (.tuple #[.int .i64 j, .bool ok]) ∧ w = w' ∧ (ok = true → ∃ (p q f : Nat), a = p ∧ j = q ∧ ValF (byteAt s) s.size f p q)

theorem vpost_no (s : ByteArray) (a : Int) (w : World) (j : Int) : VPost s a w (.returned (.tuple #[.int .i64 j, .bool false])) w := ⟨j, false, rfl, rfl, fun h => by cases h⟩

set_option maxRecDepth 100000 in
set_option maxHeartbeats 2000000 in
theorem scanValue_out (s : ByteArray) (a : Int) (w : World) (hs : s.size ≤ 1048576) (ha : a < 0 ∨ (s.size : Int) ≤ a) :
    Calls Try.prog 9 #[.string s, .int .i64 a] w (VPost s a w) := by
  rcases ha with ha | ha
  · go_enter Try.func9, Try.ntmps9
    go_wp2
    go_ret2
    exact vpost_no _ _ _ _
  · have h0 : ¬ a < 0 := by omega
    go_enter Try.func9, Try.ntmps9
    go_wp2
    go_ret2
    exact vpost_no _ _ _ _

set_option maxRecDepth 100000 in
set_option maxHeartbeats 4000000 in
theorem scanValue_in (s : ByteArray) (a : Nat) (w : World) (hs : s.size ≤ 1048576) (ha : a < s.size) :
    Calls Try.prog 9 #[.string s, .int .i64 a] w (VPost s a w) := by
  have da : decide ((a : Int) < 0) = false := by simp
  have db : decide (s.size ≤ a) = false := by simp; omega
  go_enter Try.func9, Try.ntmps9
  go_wp2_with fail
  go_loop [6, 7] (fun dv iv => ∃ d i : Nat, dv = .int .i64 d ∧ iv = .int .i64 i ∧ d ≤ i ∧ i ≤ s.size ∧ Hid (Stk (byteAt s) s.size a d i)) (fun _ iv => s.size - (intOf iv).toNat)
  case atStart => exact ⟨0, a, rfl, rfl, by omega, by omega, rfl⟩
  case round =>
    obtain ⟨d, i, rfl, rfl, hdi, hi, hst⟩ := hrel
    by_cases hlt : i < s.size
    · have HB := show Hid _ from byteAt_lt s i hlt
      by_cases c105 : (s[i].toNat : Int) = 105
      · -- an integer
        have H105 : Hid (byteAt s i = 105) := by show _ = _; rw [HB.out]; exact c105
        go_wp2_with fail
        go_loop [9] (fun jv => ∃ k : Nat, jv = .int .i64 k ∧ i < k ∧ k ≤ s.size ∧ Hid (∀ m, i < m → m < k → byteAt s m ≠ 101)) (fun jv => s.size - (intOf jv).toNat)
        case atStart => exact ⟨i + 1, by go_num, by omega, by omega, fun m h1 h2 => by omega⟩
        case round =>
          obtain ⟨k, rfl, hik, hk, hall⟩ := hrel
          by_cases hklt : k < s.size
          · have HBk := show Hid _ from byteAt_lt s k hklt
            cases h101 : ((s[k].toNat : Int) != 101)
            · have H101 : Hid (byteAt s k = 101) := by show _ = _; rw [HBk.out]; simpa using h101
              have dk : decide (s.size ≤ k) = false := by simp; omega
              have HV : Hid (ValF (byteAt s) s.size 1 i (k + 1)) := .inr (.inl ⟨H105.out, k, hik, hall.out, H101.out, rfl, by omega⟩)
              cases d with
              | zero =>
                have hia : Hid (i = a) := hst.out
                go_wp2
                go_ret2
                exact ⟨_, true, rfl, rfl, fun _ => ⟨a, k + 1, 1, rfl, by go_num, by rw [← hia.out]; exact HV.out⟩⟩
              | succ d =>
                have hst2 : Hid (Stk (byteAt s) s.size a (d + 1) (k + 1)) := stk_val hst.out HV.out
                go_wp2
                go_round
                case rel => exact ⟨d + 1, k + 1, rfl, by go_num, by omega, by omega, hst2⟩
                case measure => simp [intOf]; omega
            · have H101 : Hid (byteAt s k ≠ 101) := by show _ ≠ _; rw [HBk.out]; simpa using h101
              go_wp2
              go_round
              case rel => exact ⟨k + 1, by go_num, by omega, by omega, fun m h1 h2 => by
                by_cases e : m = k
                · subst e; exact H101.out
                · exact hall.out m h1 (by omega)⟩
              case measure => simp [intOf]; omega
          · go_wp2
            go_ret2
            exact vpost_no _ _ _ _
      have b105 : ((s[i].toNat : Int) == 105) = false := by simpa using c105
      by_cases cop : (s[i].toNat : Int) = 108 ∨ (s[i].toNat : Int) = 100
      · -- a list or a dictionary opens
        have hst2 : Hid (Stk (byteAt s) s.size a (d + 1) (i + 1)) := stk_open hst.out (by rw [HB.out]; exact cop)
        have hd0 : ((d : Int) + 1 == 0) = false := by simp; omega
        rcases cop with cop | cop
        · go_wp2
          go_round
          case rel => exact ⟨d + 1, i + 1, by go_num, by go_num, by omega, by omega, hst2⟩
          case measure => simp [intOf]; omega
        · go_wp2
          go_round
          case rel => exact ⟨d + 1, i + 1, by go_num, by go_num, by omega, by omega, hst2⟩
          case measure => simp [intOf]; omega
      have b108 : ((s[i].toNat : Int) == 108) = false := by simp; omega
      have b100 : ((s[i].toNat : Int) == 100) = false := by simp; omega
      by_cases c101 : (s[i].toNat : Int) = 101
      · -- one closes
        have H101 : Hid (byteAt s i = 101) := by show _ = _; rw [HB.out]; exact c101
        cases d with
        | zero =>
          go_wp2
          go_ret2
          exact vpost_no _ _ _ _
        | succ d =>
          cases d with
          | zero =>
            have hcl : Hid (∃ f, ValF (byteAt s) s.size f a (i + 1)) := by
              obtain ⟨p, f, h1, h2⟩ := stk_close hst.out H101.out hlt
              have h1 : p = a := h1
              subst h1
              exact ⟨f, h2⟩
            go_wp2
            go_ret2
            obtain ⟨f, hf⟩ := hcl.out
            exact ⟨_, true, rfl, rfl, fun _ => ⟨a, i + 1, f, rfl, by go_num, hf⟩⟩
          | succ d =>
            have hst2 : Hid (Stk (byteAt s) s.size a (d + 1) (i + 1)) := stk_close_in hst.out H101.out hlt
            go_wp2
            go_round
            case rel => exact ⟨d + 1, i + 1, by go_num, by go_num, by omega, by omega, hst2⟩
            case measure => simp [intOf]; omega
      have b101 : ((s[i].toNat : Int) == 101) = false := by simpa using c101
      cases hd : dig (s[i].toNat : Int)
      · go_wp2_with fail
        refine (isDigit_any _ _).mono ?_
        rintro e w' ⟨rfl, rfl⟩
        rw [hd]
        go_wp2
        go_ret2
        exact vpost_no _ _ _ _
      · go_wp2_with fail
        refine (isDigit_any _ _).mono ?_
        rintro e w' ⟨rfl, rfl⟩
        rw [hd]
        go_wp2_with fail
        refine (scanString_any s i w hs hlt).mono ?_
        rintro e w' ⟨t, j, ok, rfl, rfl, hok⟩
        cases ok
        · go_wp2
          go_ret2
          exact vpost_no _ _ _ _
        · obtain ⟨q, rfl, hleaf⟩ := hok rfl
          have HV : Hid (ValF (byteAt s) s.size 1 i q) := .inl hleaf
          have hiq := valF_lt _ _ _ _ _ HV.out
          clear hok hleaf
          cases d with
          | zero =>
            have hia : Hid (i = a) := hst.out
            go_wp2
            go_ret2
            exact ⟨_, true, rfl, rfl, fun _ => ⟨a, q, 1, rfl, rfl, by rw [← hia.out]; exact HV.out⟩⟩
          | succ d =>
            have hst2 : Hid (Stk (byteAt s) s.size a (d + 1) q) := stk_val hst.out HV.out
            go_wp2
            go_round
            case rel => exact ⟨d + 1, q, rfl, rfl, by omega, by omega, hst2⟩
            case measure => simp [intOf]; omega
    · go_wp2
      go_ret2
      exact vpost_no _ _ _ _
end Go.Proofs.Qxb6601689a.Base
