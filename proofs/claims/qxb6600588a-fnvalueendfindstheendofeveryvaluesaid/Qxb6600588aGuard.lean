import Derived.Test.Qxb6600588aStr
namespace Go.Proofs.Qxb6600588a.Base
open Go.RowKit
set_option linter.unusedVariables false
set_option linter.unusedSimpArgs false

/-- What the guard's answer says. -/
def GPost (ss : List ByteArray) (w : World) (e : Ending) (w' : World) : Prop := ∃ r, e = .returned (.bool r) ∧ w = w' ∧ (r = true → ∀ s ∈ ss, s.size ≤ 1048576)
theorem gpost_no (ss : List ByteArray) (w : World) : GPost ss w (.returned (.bool false)) w := ⟨false, rfl, rfl, fun h => by cases h⟩
theorem gpost_any {ss : List ByteArray} (w : World) (r : Bool) (h : ∀ s ∈ ss, s.size ≤ 1048576) : GPost ss w (.returned (.bool r)) w := ⟨r, rfl, rfl, fun _ => h⟩

set_option maxRecDepth 100000 in
set_option maxHeartbeats 3200000 in
theorem guard7_any (a0 a1 a2 a3 a5 : Option Addr) (n0 c0 n1 c1 m c2 q c3 n5 c5 : Nat) (sep : Int) (ss : List ByteArray) (w : World) (hs : SRow w a2 m ss) (hss : ∀ s ∈ ss, s.size ≤ maxLen)
    (h0 : n0 ≤ maxLen) (h1 : n1 ≤ maxLen) (h2 : m ≤ maxLen) (h3 : q ≤ maxLen) (h5 : n5 ≤ maxLen) :
    Calls Try.prog 7 #[.slice a0 n0 c0, .slice a1 n1 c1, .slice a2 m c2, .slice a3 q c3, .int .u8 sep, .slice a5 n5 c5] w fun e w' => GPost ss w e w' := by
  unfold maxLen at h0 h1 h2 h3 h5
  have HSS : Hid (∀ s ∈ ss, s.size ≤ 9223372036854775807) := fun s h => by have := hss s h; unfold maxLen at this; omega
  have HS := show Hid _ from hs
  have hlen := hs.len
  clear hs hss
  by_cases g1 : 1048576 < n0
  · go_enter Try.func7, Try.ntmps7; go_wp2; go_ret; exact gpost_no ss w
  by_cases g2 : 1048576 < n1
  · go_enter Try.func7, Try.ntmps7; go_wp2; go_ret; exact gpost_no ss w
  by_cases g3 : 1048576 < n0 + n1
  · go_enter Try.func7, Try.ntmps7; go_wp2; go_ret; exact gpost_no ss w
  by_cases g4 : 1048576 < m
  · go_enter Try.func7, Try.ntmps7; go_wp2; go_ret; exact gpost_no ss w
  by_cases g5 : 1048576 < n0 + n1 + m
  · go_enter Try.func7, Try.ntmps7; go_wp2; go_ret; exact gpost_no ss w
  go_enter Try.func7, Try.ntmps7
  go_wp2_with fail
  go_loop [13, 14] (fun z i => ∃ k zn : Nat, k ≤ m ∧ zn ≤ 1048576 ∧ i = .int .i64 k ∧ z = .int .i64 zn ∧ Hid (∀ j, (hj : j < ss.length) → j < k → ss[j].size ≤ 1048576)) (fun _ i => m - (intOf i).toNat)
  case atStart => exact ⟨0, n0 + n1 + m, Nat.zero_le _, by omega, rfl, by go_num, fun j hj h => by omega⟩
  case round =>
    obtain ⟨k, zn, hk, hz, rfl, rfl, hall⟩ := hrel
    by_cases hlt : k < m
    · obtain ⟨b, off, he, hbl, hcell⟩ := HS.out.at (by omega)
      subst he
      have hkl : k < ss.length := by omega
      have hck := hcell k hkl
      have hsz := HSS.out _ (List.getElem_mem hkl)
      have hal2 : Hid (ss[k].size ≤ 1048576 → ∀ j, (hj : j < ss.length) → j < k + 1 → ss[j].size ≤ 1048576) := fun h j hj h' => by
        by_cases e : j = k
        · subst e; exact h
        · exact hall.out j hj (by omega)
      clear hcell hall
      generalize ss[k] = s at *
      by_cases b1 : 1048576 < s.size
      · go_wp2
        go_ret
        exact gpost_no ss w
      by_cases b2 : 1048576 < zn + s.size
      · go_wp2
        go_ret
        exact gpost_no ss w
      · go_wp2
        go_round
        case rel => exact ⟨k + 1, zn + s.size, by omega, by omega, by go_num, by go_num, hal2.out (by omega)⟩
        case measure => simp [intOf]; omega
    · have HF : Hid (∀ s ∈ ss, s.size ≤ 1048576) := fun s hs => by
        obtain ⟨j, hj, rfl⟩ := List.mem_iff_getElem.1 hs
        exact hall.out j hj (by omega)
      clear hall
      by_cases b1 : 1048576 < q
      · go_wp2
        go_ret
        exact gpost_any w _ HF.out
      by_cases b2 : 1048576 < zn + q
      · go_wp2
        go_ret
        exact gpost_any w _ HF.out
      by_cases b3 : 1048576 < n5
      · go_wp2
        go_ret
        exact gpost_any w _ HF.out
      by_cases b4 : 1048576 < zn + q + n5
      · go_wp2
        go_ret
        exact gpost_any w _ HF.out
      · go_wp2
        go_ret
        exact gpost_any w _ HF.out

set_option maxRecDepth 100000 in
set_option maxHeartbeats 3200000 in
theorem docBytes_any (a1 a2 a3 : Option Addr) (n c1 m c2 q c3 : Nat) (ss : List ByteArray) (w : World) (hs : SRow w a2 m ss) (hss : ∀ s ∈ ss, s.size ≤ 1048576)
    (h1 : n ≤ maxLen) (h2 : m ≤ maxLen) (h3 : q ≤ maxLen) :
    Calls Try.prog 8 #[.slice a1 n c1, .slice a2 m c2, .slice a3 q c3] w fun e w' => ∃ r : Int, e = .returned (.int .i64 r) ∧ w = w' ∧ (r = -1 ∨ (0 ≤ r ∧ r ≤ 1000000 ∧ n ≤ 4096 ∧ ∀ s ∈ ss, s.size ≤ 65536)) := by
  unfold maxLen at h1 h2 h3
  have HSS : Hid (∀ s ∈ ss, s.size ≤ 1048576) := hss
  have HS := show Hid _ from hs
  have hlen := hs.len
  clear hs hss
  by_cases g1 : 4096 < n
  · go_enter Try.func8, Try.ntmps8; go_wp2; go_ret; exact ⟨_, rfl, rfl, .inl rfl⟩
  by_cases g2 : 4096 < m
  · go_enter Try.func8, Try.ntmps8; go_wp2; go_ret; exact ⟨_, rfl, rfl, .inl rfl⟩
  by_cases g3 : 4096 < q
  · go_enter Try.func8, Try.ntmps8; go_wp2; go_ret; exact ⟨_, rfl, rfl, .inl rfl⟩
  go_enter Try.func8, Try.ntmps8
  go_wp2_with fail
  go_loop [7, 8] (fun z i => ∃ k zn : Nat, k ≤ m ∧ zn ≤ 65536 ∧ i = .int .i64 k ∧ z = .int .i64 zn ∧ Hid (∀ j, (hj : j < ss.length) → j < k → ss[j].size ≤ 65536)) (fun _ i => m - (intOf i).toNat)
  case atStart => exact ⟨0, 0, Nat.zero_le _, by omega, rfl, rfl, fun j hj h => by omega⟩
  case round =>
    obtain ⟨k, zn, hk, hz, rfl, rfl, hall⟩ := hrel
    by_cases hlt : k < m
    · obtain ⟨b, off, he, hbl, hcell⟩ := HS.out.at (by omega)
      subst he
      have hkl : k < ss.length := by omega
      have hck := hcell k hkl
      have hsz := HSS.out _ (List.getElem_mem hkl)
      have hal2 : Hid (ss[k].size ≤ 65536 → ∀ j, (hj : j < ss.length) → j < k + 1 → ss[j].size ≤ 65536) := fun h j hj h' => by
        by_cases e : j = k
        · subst e; exact h
        · exact hall.out j hj (by omega)
      clear hcell hall
      generalize ss[k] = s at *
      by_cases b2 : 65536 < zn + s.size
      · go_wp2
        go_ret
        first | exact ⟨_, rfl, rfl, .inl rfl⟩ | exact ⟨rfl, .inl rfl⟩ | rfl
      · go_wp2
        go_round
        case rel => exact ⟨k + 1, zn + s.size, by omega, by omega, by go_num, by go_num, hal2.out (by omega)⟩
        case measure => simp [intOf]; omega
    · have HF : Hid (∀ s ∈ ss, s.size ≤ 65536) := fun s hs => by
        obtain ⟨j, hj, rfl⟩ := List.mem_iff_getElem.1 hs
        exact hall.out j hj (by omega)
      go_wp2
      go_ret
      exact ⟨_, rfl, rfl, .inr ⟨by omega, by omega, by omega, HF.out⟩⟩
end Go.Proofs.Qxb6600588a.Base
