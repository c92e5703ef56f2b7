import Derived.Test.Qxb6600315aBase
import Derived.Outline
namespace Go.Proofs.Qxb6600315a.Base
open Go.RowKit
set_option linter.unusedVariables false
set_option linter.unusedSimpArgs false

/-- The byte before which lineAt counts. -/
def cl (o : Int) (n : Nat) : Nat := (min (max o 0) (n : Int)).toNat

theorem cl_le (o : Int) (n : Nat) : cl o n ≤ n := by unfold cl; omega

/-- What lineAt answers. -/
def line (xs : List Int) (o : Int) : Int := 1 + nl (xs.take (cl o xs.length))

theorem nl_le (xs : List Int) : nl xs ≤ xs.length := List.count_le_length

theorem ret_int {k : IntKind} {a b : Int} (h : a = b) : Ending.returned (.int k a) = .returned (.int k b) := by rw [h]

set_option maxHeartbeats 1000000 in
theorem lineAt_any (a : Option Addr) (n c : Nat) (o : Int) (xs : List Int) (w : World) (hr : Row w a n xs) (hn : n ≤ 1048576) (hc : n ≤ c) (hcm : c ≤ maxLen) :
    Calls Try.prog 19 #[.slice a n c, .int .i64 o] w fun e w' => e = .returned (.int .i64 (line xs o)) ∧ Below w.heap.size w w' := by
  have kc := fun (w : World) (C : Array Value) (n c : Nat) => Lib.run_convert_bytes_const (P := Try.prog) w 27 5 C n c Try.underlying27 Try.underlying5
  have hm := cl_le o n
  have hcon := count_any a (cl o n) c w.heap.size 1 (xs.take (cl o n)) (w.alloc (.cells #[.int .u8 10] 5 (1, 2))) ((hr.take _ hm).below ((Below.refl _ _).alloc (Nat.le_refl _) _)) (by rw [World.cell?_alloc_mark]; rfl)
  have hnl : nl (xs.take (cl o n)) ≤ 1048576 := by have := nl_le (xs.take (cl o n)); simp at this; omega
  have hl := hr.len
  have hfin : line xs o = 1 + nl (xs.take (cl o n)) := by unfold line; rw [hl]
  have HF : Hid (line xs o = 1 + nl (xs.take (cl o n))) := hfin
  unfold maxLen at hcm
  clear hr hfin hl hm
  generalize nl (xs.take (cl o n)) = k at *
  unfold cl at hcon
  go_enter Try.func19, Try.ntmps19
  go_wp2_with fail
  refine hcon.mono ?_
  rintro e w' ⟨rfl, rfl⟩
  go_wp2
  go_ret
  exact ⟨ret_int HF.out.symm, (Below.refl _ w).alloc (Nat.le_refl _) _⟩

set_option maxHeartbeats 1000000 in
theorem zzLineAt_any (a : Option Addr) (n c : Nat) (o : Int) (xs : List Int) (w : World) (hr : Row w a n xs) (hn : n ≤ 1048576) (hc : n ≤ c) (hcm : c ≤ maxLen) :
    Calls Try.prog 15 #[.slice a n c, .int .i64 o] w fun e w' => e = .returned (.int .i64 (line xs o)) ∧ Below w.heap.size w w' := by
  have hcon := lineAt_any a n c o xs w hr hn hc hcm
  clear hr
  go_enter Try.func15, Try.ntmps15
  go_wp2_with fail
  refine hcon.mono ?_
  rintro e w' ⟨rfl, hb⟩
  go_wp2
  go_ret
  exact ⟨rfl, hb⟩

set_option maxHeartbeats 1000000 in
theorem guard13 (a : Option Addr) (n c : Nat) (o : Int) (w : World) (hn : n ≤ 1048576) :
    Calls Try.prog 13 #[.slice a n c, .int .i64 o] w fun e w' => e = .returned (.bool true) ∧ w' = w := by
  go_enter Try.func13, Try.ntmps13
  go_wp2
  go_ret
  exact ⟨rfl, rfl⟩

set_option maxHeartbeats 1000000 in
theorem guard13_no (a : Option Addr) (n c : Nat) (o : Int) (w : World) (hn : 1048576 < n) (hc : n ≤ maxLen) :
    Calls Try.prog 13 #[.slice a n c, .int .i64 o] w fun e w' => e = .returned (.bool false) ∧ w' = w := by
  unfold maxLen at hc
  go_enter Try.func13, Try.ntmps13
  go_wp2
  go_ret
  exact ⟨rfl, rfl⟩
end Go.Proofs.Qxb6600315a.Base
