import Derived.Test.Qxb6600315aLine
import Derived.OpenShut
import Derived.Lib.SliceRun
namespace Go.Proofs.Qxb6600315a.Base
open Go.RowKit
set_option linter.unusedVariables false
set_option linter.unusedSimpArgs false

theorem Row.at {w : World} {a : Option Addr} {n : Nat} {xs : List Int} (h : Row w a n xs) (hp : 0 < n) :
    ∃ b off, a = some ⟨b, off, none⟩ ∧ b < w.heap.size ∧ ∀ j, j < n → w.cell? ⟨b, off + j, none⟩ = some (.int .u8 (xs.getD j 0)) := by
  obtain ⟨hl, hc, hz, _⟩ := h
  subst hl
  cases a with
  | none => have := hz rfl; omega
  | some x =>
    obtain ⟨b, off, rfl, h⟩ := ints_at (hc x rfl) hp
    exact ⟨b, off, rfl, by have := lt_of_cell (h 0 hp); exact this, h⟩

/-- The new array behind k rounds. -/
def buf (xs : List Int) (k : Nat) : Array Value := ((List.range xs.length).map fun j => Value.int .u8 (if j < k then xs.getD j 0 else 0)).toArray

theorem size_buf (xs : List Int) (k : Nat) : (buf xs k).size = xs.length := by simp [buf]

theorem buf_get (xs : List Int) (k j : Nat) : (buf xs k).toList[j]? = if j < xs.length then some (Value.int .u8 (if j < k then xs.getD j 0 else 0)) else none := by
  simp only [buf, List.getElem?_map]
  by_cases h : j < xs.length
  · rw [List.getElem?_range h, if_pos h]; rfl
  · rw [if_neg h, List.getElem?_eq_none (by simp; omega)]; rfl

theorem buf_zero (xs : List Int) : buf xs 0 = madeCells #[.int .u8 0] xs.length := by
  apply Array.toList_inj.1
  rw [toList_madeCells_one]
  apply List.ext_getElem?
  intro j
  rw [buf_get, List.getElem?_replicate]
  simp

theorem buf_step (xs : List Int) (k : Nat) (hk : k < xs.length) : (buf xs k).setIfInBounds k (.int .u8 (xs.getD k 0)) = buf xs (k + 1) := by
  apply Array.toList_inj.1
  rw [Array.toList_setIfInBounds]
  apply List.ext_getElem?
  intro j
  have hs : (buf xs k).toList.length = xs.length := by simp [size_buf]
  rw [List.getElem?_set, buf_get, buf_get, hs]
  by_cases hj : k = j
  · subst hj
    rw [if_pos rfl, if_pos hk, if_pos hk, if_pos (by omega)]
  · rw [if_neg hj]
    by_cases h2 : j < xs.length
    · rw [if_pos h2, if_pos h2]
      by_cases h1 : j < k
      · rw [if_pos h1, if_pos (by omega)]
      · rw [if_neg h1, if_neg (by omega)]
    · rw [if_neg h2, if_neg h2]

theorem buf_row (w : World) (xs : List Int) (n : Nat) (hl : xs.length = n) (hwf : ∀ x ∈ xs, 0 ≤ x ∧ x < 256) :
    Row (w.alloc (.cells (buf xs n) 5)) (some ⟨w.heap.size, 0, none⟩) n xs where
  len := hl
  cell := fun x hx i hi => by
    cases hx
    rw [Go.WideShapes.add_plain]
    simp only [Nat.zero_add]
    rw [cell_of_row _ w.heap.size i (buf xs n) 5 (0, 0) (heap_alloc_new w _)]
    subst hl
    rw [← Array.getElem?_toList, buf_get, if_pos hi, if_pos hi]
  zero := by simp
  wf := hwf

theorem info5 : (Try.prog.info? 5).map (fun i => (i.zero, i.size, i.bytes)) = some (some (.int .u8 0), 1, 1) := by kernel_rfl

set_option maxHeartbeats 1000000 in
theorem clone_any (a : Option Addr) (n c : Nat) (xs : List Int) (w : World) (hr : Row w a n xs) (hn : n ≤ 1048576) :
    Calls Try.prog 14 #[.slice a n c] w fun e w' => ∃ a' c', e = .returned (.slice a' n c') ∧ n ≤ c' ∧ c' ≤ maxLen ∧ Row w' a' n xs ∧ Below w.heap.size w w' := by
  have keq := fun (w : World) (a : Option Addr) (n c : Nat) => Lib.run_eql_slice_nil (P := Try.prog) w 27 5 a n c 0 0 Try.underlying27
  have hl := hr.len
  have hwf := hr.wf
  have hrow := buf_row w xs n hl hwf
  have hend : n ≤ maxLen := by unfold maxLen; omega
  have hmk : ∀ w : World, (Instr.makeSlice 27 (.int .i64 (n : Int)) (.int .i64 (n : Int))).run Try.prog w = .ok (.slice (some ⟨w.heap.size, 0, none⟩) n n) (w.alloc (.cells (buf xs 0) 5)) := by
    intro w
    obtain ⟨i0, hi, hz0, hz1, hz2⟩ := info_parts info5
    have h := run_make (P := Try.prog) w 27 5 i0 _ Try.underlying27 hi hz0 .i64 .i64 n n (by omega) (by omega) (by rw [hz2]; omega) (by omega)
    rw [h, hz1, buf_zero, hl]
    simp only [Int.toNat_natCast, Nat.mul_one]
    rfl
  cases a with
  | none =>
    have hz := hr.zero rfl
    subst hz
    go_enter Try.func14, Try.ntmps14
    go_wp2
    go_ret
    exact ⟨_, _, rfl, Nat.le_refl _, hend, hr, Below.refl _ _⟩
  | some x =>
  by_cases hp : 0 < n
  · obtain ⟨b, off, he, hb, hc⟩ := hr.at hp
    cases he
    clear hr
    go_enter Try.func14, Try.ntmps14
    go_wp2
    go_loopw [4] (fun i wr => ∃ k : Nat, k ≤ n ∧ i = .int .i64 k ∧ wr = w.alloc (.cells (buf xs k) 5)) (fun i _ => n - (intOf i).toNat)
    case atStart => exact ⟨0, Nat.zero_le _, rfl, rfl⟩
    case round =>
      obtain ⟨k, hk, rfl, rfl⟩ := hrel
      by_cases hlt : k < n
      · have hck := hc k hlt
        have hst := buf_step xs k (by omega)
        have hsz := size_buf xs k
        clear hc
        rw [List.getD_eq_getElem?_getD] at hst hck
        go_wp2
        go_roundw
        case rel => exact ⟨k + 1, by omega, by go_num, by rw [← hst]; simp [hl, hlt]⟩
        case measure => simp [intOf]; omega
      · obtain rfl : k = n := by omega
        go_wp2
        go_ret
        exact ⟨_, _, rfl, Nat.le_refl _, hend, hrow, (Below.refl _ w).alloc (Nat.le_refl _) _⟩
  · obtain rfl : n = 0 := by omega
    have hmk0 : ∀ w : World, (Instr.makeSlice 27 (.int .i64 0) (.int .i64 0)).run Try.prog w = .ok (.slice (some ⟨w.heap.size, 0, none⟩) 0 0) (w.alloc (.cells (buf xs 0) 5)) := hmk
    clear hr
    go_enter Try.func14, Try.ntmps14
    go_wp2
    refine wp_loop_rounds 1 ?_
    rw [rounds_succ]
    go_wp2
    go_ret
    exact ⟨_, _, rfl, Nat.le_refl _, hend, hrow, (Below.refl _ w).alloc (Nat.le_refl _) _⟩
end Go.Proofs.Qxb6600315a.Base
