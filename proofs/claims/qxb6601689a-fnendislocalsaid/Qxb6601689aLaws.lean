import Derived.Test.Qxb6601689aEnd
namespace Go.Proofs.Qxb6601689a.Base
open Go.RowKit
set_option linter.unusedVariables false
set_option linter.unusedSimpArgs false

theorem scanValue_any (s : ByteArray) (a : Int) (w : World) (hs : s.size ≤ 1048576) :
    Calls Try.prog 9 #[.string s, .int .i64 a] w (VPost s a w) := by
  by_cases h : a < 0 ∨ (s.size : Int) ≤ a
  · exact scanValue_out s a w hs h
  · obtain ⟨n, rfl⟩ := Int.eq_ofNat_of_zero_le (show 0 ≤ a by omega)
    exact scanValue_in s n w hs (by omega)

set_option maxHeartbeats 1000000 in
theorem guard8 (s : ByteArray) (a : Int) (w : World) (hs : s.size ≤ 1048576) :
    Calls Try.prog 8 #[.string s, .int .i64 a] w fun e w' => e = .returned (.bool true) ∧ w = w' := by
  go_enter Try.func8, Try.ntmps8
  go_wp2
  go_ret
  exact ⟨rfl, rfl⟩

set_option maxHeartbeats 1000000 in
theorem guard8_no (s : ByteArray) (a : Int) (w : World) (hs : 1048576 < s.size) (hm : s.size ≤ maxLen) :
    Calls Try.prog 8 #[.string s, .int .i64 a] w fun e w' => e = .returned (.bool false) ∧ w = w' := by
  unfold maxLen at hm
  go_enter Try.func8, Try.ntmps8
  go_wp2
  go_ret
  exact ⟨rfl, rfl⟩

set_option maxHeartbeats 1000000 in
theorem guard11 (s : ByteArray) (a : Int) (w : World) (hs : s.size ≤ 1048576) :
    Calls Try.prog 11 #[.string s, .int .i64 a] w fun e w' => e = .returned (.bool true) ∧ w = w' := by
  go_enter Try.func11, Try.ntmps11
  go_wp2
  go_ret
  exact ⟨rfl, rfl⟩

set_option maxHeartbeats 1000000 in
theorem guard11_no (s : ByteArray) (a : Int) (w : World) (hs : 1048576 < s.size) (hm : s.size ≤ maxLen) :
    Calls Try.prog 11 #[.string s, .int .i64 a] w fun e w' => e = .returned (.bool false) ∧ w = w' := by
  unfold maxLen at hm
  go_enter Try.func11, Try.ntmps11
  go_wp2
  go_ret
  exact ⟨rfl, rfl⟩

set_option maxHeartbeats 1000000 in
theorem matches_any (s : ByteArray) (a : Int) (w : World) (hm : s.size ≤ maxLen) :
    Calls Try.prog 3 #[.string s, .int .i64 a] w fun e w' => e = .returned (.bool true) ∧ w' = w := by
  by_cases hs : s.size ≤ 1048576
  · have g := guard8 s a w hs
    have sv := scanValue_any s a w hs
    go_enter Try.func3, Try.ntmps3
    go_wp2_with fail
    refine g.mono ?_
    rintro e w' ⟨rfl, rfl⟩
    go_wp2_with fail
    refine sv.mono ?_
    rintro e w' ⟨j, ok, rfl, rfl, hok⟩
    clear g sv
    cases ok
    · go_wp2
      go_ret
      exact ⟨rfl, rfl⟩
    · obtain ⟨p, q, f, rfl, rfl, hv⟩ := hok rfl
      have z := zzEnd_any s hs f p q w hv
      clear hok hv
      go_wp2_with fail
      refine z.mono ?_
      rintro e w' ⟨rfl, rfl⟩
      go_wp2
      go_ret
      exact ⟨ret_bool (by simp), rfl⟩
  · have g := guard8_no s a w (by omega) hm
    go_enter Try.func3, Try.ntmps3
    go_wp2_with fail
    refine g.mono ?_
    rintro e w' ⟨rfl, rfl⟩
    go_wp2
    go_ret
    exact ⟨rfl, rfl⟩

theorem byteAt_cut (s : ByteArray) (a b : Nat) (hb : b ≤ s.size) (hab : a ≤ b) : (s.extract a b).size = b - a ∧ ∀ k, k < b - a → byteAt (s.extract a b) k = byteAt s (a + k) := by
  have hz : (s.extract a b).size = b - a := by rw [ByteArray.size_extract]; omega
  refine ⟨hz, fun k hk => ?_⟩
  rw [byteAt_lt (s.extract a b) k (by omega), byteAt_lt s (a + k) (by omega)]
  have h1 := extract_at s a b k hb (by omega)
  rw [data_at (s.extract a b) k (by omega)] at h1
  simp only [Option.some.injEq] at h1
  rw [h1]

set_option maxHeartbeats 1000000 in
theorem local_any (s : ByteArray) (a : Int) (w : World) (hm : s.size ≤ maxLen) :
    Calls Try.prog 4 #[.string s, .int .i64 a] w fun e w' => e = .returned (.bool true) ∧ w' = w := by
  by_cases hs : s.size ≤ 1048576
  · have g := guard11 s a w hs
    have sv := scanValue_any s a w hs
    go_enter Try.func4, Try.ntmps4
    go_wp2_with fail
    refine g.mono ?_
    rintro e w' ⟨rfl, rfl⟩
    go_wp2_with fail
    refine sv.mono ?_
    rintro e w' ⟨j, ok, rfl, rfl, hok⟩
    clear g sv
    cases ok
    · go_wp2
      go_ret
      exact ⟨rfl, rfl⟩
    · obtain ⟨p, q, f, rfl, rfl, hv⟩ := hok rfl
      have z := zzEnd_any s hs f p q w hv
      have hpq := valF_lt _ _ _ _ _ hv
      obtain ⟨hz, hcut⟩ := byteAt_cut s p q hpq.2 (by omega)
      have hv2 := valF_cut (byteAt s) (byteAt (s.extract p q)) s.size p q hcut f p q (Nat.le_refl _) (Nat.le_refl _) hv
      rw [← hz, Nat.sub_self] at hv2
      have z2 := zzEnd_any (s.extract p q) (by omega) f 0 _ w hv2
      rw [hz] at z2
      have Z2 : Hid (Calls Try.prog 10 #[.string (s.extract p q), .int .i64 0] w fun e w' => e = .returned (.int .i64 ((q - p : Nat) : Int)) ∧ w = w') := z2
      clear hok hv hv2 hcut z2 hz
      obtain ⟨h1, h2⟩ := hpq
      go_wp2_with fail
      refine z.mono ?_
      rintro e w' ⟨rfl, rfl⟩
      go_wp2_with fail
      refine Z2.out.mono ?_
      rintro e w' ⟨rfl, rfl⟩
      have hd : ((q - p : Nat) : Int) = (q : Int) - (p : Int) := by omega
      rw [hd]
      clear hd
      go_wp2
      go_ret
      exact ⟨ret_bool (by simp), rfl⟩
  · have g := guard11_no s a w (by omega) hm
    go_enter Try.func4, Try.ntmps4
    go_wp2_with fail
    refine g.mono ?_
    rintro e w' ⟨rfl, rfl⟩
    go_wp2
    go_ret
    exact ⟨rfl, rfl⟩
end Go.Proofs.Qxb6601689a.Base
