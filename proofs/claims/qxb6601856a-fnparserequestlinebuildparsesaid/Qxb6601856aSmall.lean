import Derived.Test.Qxb6601856aToken
import Derived.Lib.SliceRun
namespace Go.Proofs.Qxb6601856a.Base
open Go.RowKit
set_option linter.unusedVariables false
set_option linter.unusedSimpArgs false

set_option maxRecDepth 100000 in
set_option maxHeartbeats 4000000 in
/-- isTarget. -/
theorem target_any (a : Option Addr) (n c : Nat) (xs : List Int) (w : World) (hr : Row w a n xs) (hn : n ≤ 1048576) (hp : 0 < n) (hV : ∀ x ∈ xs, Vis x) :
    Calls Try.prog 24 #[.slice a n c] w fun e w' => e = .returned (.bool true) ∧ w = w' := by
  obtain ⟨b, off, rfl, hb, hc⟩ := hr.at hp
  have hl := show Hid _ from hr.len
  have HC := show Hid _ from hc
  have HV := show Hid _ from hV
  clear hr hc hV
  go_enter Try.func24, Try.ntmps24
  go_wp2
  go_loop [7] (fun i => ∃ k : Nat, k ≤ n ∧ i = .int .i64 k) (fun i => n - (intOf i).toNat)
  case atStart => exact ⟨0, Nat.zero_le _, rfl⟩
  case round =>
    obtain ⟨k, hk, rfl⟩ := hrel
    by_cases hlt : k < n
    · have hck := HC.out k hlt
      have htk : Vis (xs.getD k 0) := by
        have := hl.out
        rw [getD_getElem xs k (by omega)]
        exact HV.out _ (List.getElem_mem _)
      generalize xs.getD k 0 = x at hck htk
      obtain ⟨h1, h2⟩ := htk
      have d1 : decide (x ≤ 32) = false := decide_eq_false (by omega)
      have d2 : decide (127 ≤ x) = false := decide_eq_false (by omega)
      go_wp2
      go_round
      case rel => exact ⟨k + 1, by omega, by go_num⟩
      case measure => simp [intOf]; omega
    · obtain rfl : k = n := by omega
      go_wp2
      go_ret
      exact ⟨rfl, rfl⟩

set_option maxHeartbeats 1000000 in
theorem digit_yes (c : Int) (w : World) (h1 : 48 ≤ c) (h2 : c ≤ 57) : Calls Try.prog 27 #[.int .u8 c] w fun e w' => e = .returned (.bool true) ∧ w = w' := by
  go_enter Try.func27, Try.ntmps27
  go_wp2
  go_ret
  exact ⟨rfl, rfl⟩

set_option maxRecDepth 100000 in
set_option maxHeartbeats 4000000 in
/-- hsEq at equal rows. -/
theorem eq_any (a1 a2 : Option Addr) (n c1 c2 : Nat) (xs : List Int) (w : World) (h1 : Row w a1 n xs) (h2 : Row w a2 n xs) (hn : n ≤ 1048576) (hp : 0 < n) :
    Calls Try.prog 12 #[.slice a1 n c1, .slice a2 n c2] w fun e w' => e = .returned (.bool true) ∧ ∃ q, w' = w.drewN q := by
  obtain ⟨b1, o1, rfl, hb1, hc1⟩ := h1.at hp
  obtain ⟨b2, o2, rfl, hb2, hc2⟩ := h2.at hp
  have HC1 := show Hid _ from hc1
  have HC2 := show Hid _ from hc2
  clear h1 h2 hc1 hc2
  go_enter Try.func12, Try.ntmps12
  go_wp2
  go_loopw [5] (fun i wr => ∃ k q : Nat, k ≤ n ∧ i = .int .i64 k ∧ wr = w.drewN q) (fun i _ => n - (intOf i).toNat)
  case atStart => exact ⟨0, 0, Nat.zero_le _, rfl, rfl⟩
  case round =>
    obtain ⟨k, q, hk, rfl, rfl⟩ := hrel
    by_cases hlt : k < n
    · have hk1 := HC1.out k hlt
      have hk2 := HC2.out k hlt
      generalize xs.getD k 0 = x at hk1 hk2
      go_wp2_with fail
      go_quiet (fail)
      go_wp2
      go_roundw
      case rel => exact ⟨k + 1, _, by omega, by go_num, rfl⟩
      case measure => simp [intOf]; omega
    · obtain rfl : k = n := by omega
      go_wp2
      go_ret
      exact ⟨rfl, _, rfl⟩

set_option maxHeartbeats 1000000 in
theorem guard_any (a b : Option Addr) (n c m d : Nat) (i j : Int) (w : World) (h1 : n ≤ maxLen) (h2 : m ≤ maxLen) :
    Calls Try.prog 13 #[.slice a n c, .slice b m d, .int .i64 i, .int .i64 j] w fun e w' => (∃ q, e = .returned (.bool q)) ∧ w = w' := by
  unfold maxLen at h1 h2
  by_cases g1 : 1048576 < n
  · go_enter Try.func13, Try.ntmps13
    go_wp2
    go_ret
    exact ⟨⟨_, rfl⟩, rfl⟩
  by_cases g2 : 1048576 < m
  · go_enter Try.func13, Try.ntmps13
    go_wp2
    go_ret
    exact ⟨⟨_, rfl⟩, rfl⟩
  by_cases g3 : 1048576 < n + m
  · go_enter Try.func13, Try.ntmps13
    go_wp2
    go_ret
    exact ⟨⟨_, rfl⟩, rfl⟩
  · go_enter Try.func13, Try.ntmps13
    go_wp2
    go_ret
    exact ⟨⟨_, rfl⟩, rfl⟩

/-- The new array behind k rounds. -/
def buf (xs : List Int) (k : Nat) : Array Value := ((List.range xs.length).map fun j => Value.int .u8 (if j < k then xs.getD j 0 else 0)).toArray

theorem size_buf (xs : List Int) (k : Nat) : (buf xs k).size = xs.length := by simp [buf]

theorem buf_get (xs : List Int) (k j : Nat) : (buf xs k).toList[j]? = if j < xs.length then some (Value.int .u8 (if j < k then xs.getD j 0 else 0)) else none := by
  simp only [buf, List.getElem?_map]
  by_cases h : j < xs.length
  · rw [List.getElem?_range h, if_pos h]; rfl
  · rw [if_neg h, List.getElem?_eq_none (by simp; omega)]; rfl

theorem buf_zero (xs : List Int) : buf xs 0 = madeCells #[.int .u8 0] xs.length := by
  apply Array.toList_inj.1
  rw [toList_madeCells_one]
  apply List.ext_getElem?
  intro j
  rw [buf_get, List.getElem?_replicate]
  simp

theorem buf_step (xs : List Int) (k : Nat) (hk : k < xs.length) : (buf xs k).setIfInBounds k (.int .u8 (xs.getD k 0)) = buf xs (k + 1) := by
  apply Array.toList_inj.1
  rw [Array.toList_setIfInBounds]
  apply List.ext_getElem?
  intro j
  have hs : (buf xs k).toList.length = xs.length := by simp [size_buf]
  rw [List.getElem?_set, buf_get, buf_get, hs]
  by_cases hj : k = j
  · subst hj
    rw [if_pos rfl, if_pos hk, if_pos hk, if_pos (by omega)]
  · rw [if_neg hj]
    by_cases h2 : j < xs.length
    · rw [if_pos h2, if_pos h2]
      by_cases h1 : j < k
      · rw [if_pos h1, if_pos (by omega)]
      · rw [if_neg h1, if_neg (by omega)]
    · rw [if_neg h2, if_neg h2]

theorem buf_row (w : World) (xs : List Int) (n : Nat) (hl : xs.length = n) (hwf : ∀ x ∈ xs, 0 ≤ x ∧ x < 256) :
    Row (w.alloc (.cells (buf xs n) 5)) (some ⟨w.heap.size, 0, none⟩) n xs where
  len := hl
  cell := fun x hx i hi => by
    cases hx
    rw [Go.WideShapes.add_plain]
    simp only [Nat.zero_add]
    rw [cell_of_row _ w.heap.size i (buf xs n) 5 (0, 0) (heap_alloc_new w _)]
    subst hl
    rw [← Array.getElem?_toList, buf_get, if_pos hi, if_pos hi]
  zero := by simp
  wf := hwf

theorem info5 : (Try.prog.info? 5).map (fun i => (i.zero, i.size, i.bytes)) = some (some (.int .u8 0), 1, 1) := by kernel_rfl

set_option maxHeartbeats 1000000 in
/-- hsClone, not empty. -/
theorem clone_any (a : Option Addr) (n c : Nat) (xs : List Int) (w : World) (hr : Row w a n xs) (hn : n ≤ 1048576) (hp : 0 < n) :
    Calls Try.prog 9 #[.slice a n c] w fun e w' => e = .returned (.slice (some ⟨w.heap.size, 0, none⟩) n n) ∧ w' = w.alloc (.cells (buf xs n) 5) := by
  have keq := fun (w : World) (a : Option Addr) (n c : Nat) => Lib.run_eql_slice_nil (P := Try.prog) w 22 5 a n c 0 0 Try.underlying22
  have hl := hr.len
  have hwf := hr.wf
  have hend : n ≤ maxLen := by unfold maxLen; omega
  have hmk : ∀ w : World, (Instr.makeSlice 22 (.int .i64 (n : Int)) (.int .i64 (n : Int))).run Try.prog w = .ok (.slice (some ⟨w.heap.size, 0, none⟩) n n) (w.alloc (.cells (buf xs 0) 5)) := by
    intro w
    obtain ⟨i0, hi, hz0, hz1, hz2⟩ := info_parts info5
    have h := run_make (P := Try.prog) w 22 5 i0 _ Try.underlying22 hi hz0 .i64 .i64 n n (by omega) (by omega) (by rw [hz2]; omega) (by omega)
    rw [h, hz1, buf_zero, hl]
    simp only [Int.toNat_natCast, Nat.mul_one]
    rfl
  obtain ⟨b, off, rfl, hb, hc⟩ := hr.at hp
  clear hr
  go_enter Try.func9, Try.ntmps9
  go_wp2
  go_loopw [4] (fun i wr => ∃ k : Nat, k ≤ n ∧ i = .int .i64 k ∧ wr = w.alloc (.cells (buf xs k) 5)) (fun i _ => n - (intOf i).toNat)
  case atStart => exact ⟨0, Nat.zero_le _, rfl, rfl⟩
  case round =>
    obtain ⟨k, hk, rfl, rfl⟩ := hrel
    by_cases hlt : k < n
    · have hck := hc k hlt
      have hst := buf_step xs k (by omega)
      have hsz := size_buf xs k
      clear hc
      rw [List.getD_eq_getElem?_getD] at hst hck
      go_wp2
      go_roundw
      case rel => exact ⟨k + 1, by omega, by go_num, by rw [← hst]; simp [hl, hlt]⟩
      case measure => simp [intOf]; omega
    · obtain rfl : k = n := by omega
      go_wp2
      go_ret
      exact ⟨rfl, rfl⟩
end Go.Proofs.Qxb6601856a.Base
