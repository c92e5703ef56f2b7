import Derived.Test.Qxb6600315aRows
import Derived.WalkKit
import Derived.WalkLawsBesides
import Derived.Below
import Derived.Lib.SlBytesConst
import Derived.Shelf.Bytes.SlCountOne
namespace Go.Proofs.Qxb6600315a.Base
open Go.RowKit
set_option linter.unusedVariables false
set_option linter.unusedSimpArgs false

/-- The slice at address 'a', of length 'n', reads as the bytes 'xs'. -/
structure Row (w : World) (a : Option Addr) (n : Nat) (xs : List Int) : Prop where
  len : xs.length = n
  cell : ∀ x, a = some x → ∀ i, i < n → w.cell? (x.add i) = some (.int .u8 (xs.getD i 0))
  zero : a = none → n = 0
  wf : ∀ x ∈ xs, 0 ≤ x ∧ x < 256

theorem lt_of_cell {w : World} {p : Addr} {v : Value} (h : w.cell? p = some v) : p.block < w.heap.size := by
  by_cases hlt : p.block < w.heap.size
  · exact hlt
  · exfalso
    have : w.heap[p.block]? = none := by simp; omega
    simp [World.cell?, this] at h

theorem Row.below {w w' : World} {a : Option Addr} {n : Nat} {xs : List Int} (h : Row w a n xs) (hb : Below w.heap.size w w') : Row w' a n xs where
  len := h.len
  cell := fun x hx i hi => by
    have hc := h.cell x hx i hi
    rw [hb.cell (lt_of_cell hc)]; exact hc
  zero := h.zero
  wf := h.wf

theorem Row.take {w : World} {a : Option Addr} {n : Nat} {xs : List Int} (h : Row w a n xs) (m : Nat) (hm : m ≤ n) : Row w a m (xs.take m) where
  len := by have := h.len; simp; omega
  cell := fun x hx i hi => by
    have hc := h.cell x hx i (by omega)
    rw [hc]; simp [hi]
  zero := fun hx => by have := h.zero hx; omega
  wf := fun x hx => h.wf x (List.mem_of_mem_take hx)

/-- How many newlines. -/
def nl (xs : List Int) : Nat := xs.count 10

theorem byte10 (x : Int) (h : 0 ≤ x ∧ x < 256) : (UInt8.ofNat x.toNat == 10) = (x == 10) := by
  rw [Bool.eq_iff_iff, beq_iff_eq, beq_iff_eq]
  constructor
  · intro e
    have := congrArg UInt8.toNat e
    simp at this
    omega
  · rintro rfl; rfl

theorem countByte_nl (xs : List Int) (h : ∀ x ∈ xs, 0 ≤ x ∧ x < 256) : Lib.countByte (Lib.bytesOf xs) 10 = nl xs := by
  unfold Lib.countByte Lib.bytesOf nl
  induction xs with
  | nil => rfl
  | cons x xs ih =>
    have hx := h x (by simp)
    have ih' := ih (fun y hy => h y (by simp [hy]))
    simp only [List.map_cons, List.count_cons]
    rw [ih', byte10 x hx]

set_option maxHeartbeats 1000000 in
/-- bytes.Count at a separator of one newline. -/
theorem count_any (a : Option Addr) (n c b2 d : Nat) (xs : List Int) (w : World) (hr : Row w a n xs) (hc2 : w.cell? ⟨b2, 0, none⟩ = some (.int .u8 10)) :
    Calls Try.prog 20 #[.slice a n c, .slice (some ⟨b2, 0, none⟩) 1 d] w fun e w' => e = .returned (.int .i64 (nl xs)) ∧ w' = w := by
  have hrun : (Extern.BytealgCount.count #[.slice a n c, .int .u8 10]).run Try.prog w = .ok (.int .i64 (nl xs)) w := by
    cases a with
    | none =>
      have := hr.zero rfl
      have hx : xs = [] := by have := hr.len; exact List.eq_nil_of_length_eq_zero (by omega)
      subst hx
      exact Lib.run_countNil w n c 10
    | some x =>
      have h := Lib.run_countAt (P := Try.prog) w x n c xs hr.len (hr.cell x rfl) 10
      rw [h]
      have := countByte_nl xs hr.wf
      show Result.ok (Value.int .i64 (Lib.countByte (Lib.bytesOf xs) 10)) w = _
      rw [this]
  clear hr
  go_enter Try.func20, Try.ntmps20
  go_wp2
  rw [run_callFunc_extern Try.func22 (by kernel_rfl) (by kernel_rfl) (by kernel_rfl) (e := Extern.BytealgCount.count) (by kernel_rfl), hrun]
  simp only [Result.andThen]
  rw [Oper.upon_value]
  go_wp2
  go_ret
  exact ⟨rfl, rfl⟩
end Go.Proofs.Qxb6600315a.Base
