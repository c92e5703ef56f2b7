import Derived.Test.Qxb6600588aRows
import Derived.Test.Qxb6600588aPlain
import Derived.WalkKit
import Derived.WalkLawsBesides
import Derived.Below
import Derived.OpenShut
import Derived.Outline
namespace Go.Proofs.Qxb6600588a.Base
open Go.RowKit
set_option linter.unusedVariables false
set_option linter.unusedSimpArgs false

/-- The slice at address 'a', of length 'n', reads as the bytes 'xs'. -/
structure Row (w : World) (a : Option Addr) (n : Nat) (xs : List Int) : Prop where
  len : xs.length = n
  cell : ∀ x, a = some x → ∀ i, i < n → w.cell? (x.add i) = some (.int .u8 (xs.getD i 0))
  zero : a = none → n = 0
  wf : ∀ x ∈ xs, 0 ≤ x ∧ x < 256

theorem lt_of_cell {w : World} {p : Addr} {v : Value} (h : w.cell? p = some v) : p.block < w.heap.size := by
  by_cases hlt : p.block < w.heap.size
  · exact hlt
  · exfalso
    have : w.heap[p.block]? = none := by simp; omega
    simp [World.cell?, this] at h

theorem Row.below {w w' : World} {a : Option Addr} {n : Nat} {xs : List Int} (h : Row w a n xs) (hb : Below w.heap.size w w') : Row w' a n xs where
  len := h.len
  cell := fun x hx i hi => by
    have hc := h.cell x hx i hi
    rw [hb.cell (lt_of_cell hc)]; exact hc
  zero := h.zero
  wf := h.wf

theorem Row.at {w : World} {a : Option Addr} {n : Nat} {xs : List Int} (h : Row w a n xs) (hp : 0 < n) :
    ∃ b off, a = some ⟨b, off, none⟩ ∧ b < w.heap.size ∧ ∀ j, (hj : j < xs.length) → w.cell? ⟨b, off + j, none⟩ = some (.int .u8 xs[j]) := by
  obtain ⟨hl, hc, hz, _⟩ := h
  subst hl
  cases a with
  | none => have := hz rfl; omega
  | some x =>
    obtain ⟨b, off, rfl, h⟩ := ints_at (hc x rfl) hp
    refine ⟨b, off, rfl, by have := lt_of_cell (h 0 hp); exact this, fun j hj => ?_⟩
    rw [h j hj, List.getD_eq_getElem?_getD, List.getElem?_eq_getElem hj, Option.getD_some]

theorem ret_int {k : IntKind} {a b : Int} (h : a = b) : Ending.returned (.int k a) = .returned (.int k b) := by rw [h]

set_option maxHeartbeats 1000000 in
/-- stringEnd at a string. -/
theorem stringEnd_any (a : Option Addr) (n c i : Nat) (xs body rest : List Int) (w : World) (hr : Row w a n xs) (hn : n ≤ 1099511627776)
    (h : xs.drop (i + 1) = body ++ 34 :: rest) (hb : okBody body = true) :
    Calls Try.prog 28 #[.slice a n c, .int .i64 i] w fun e w' => e = .returned (.int .i64 ((i + 1 + body.length + 1 : Nat) : Int)) ∧ w' = w := by
  have hlen := hr.len
  have hl2 : xs.length = i + 1 + (body ++ 34 :: rest).length := by
    have := congrArg List.length h
    rw [List.length_drop] at this
    simp only [List.length_append, List.length_cons] at this ⊢
    omega
  simp only [List.length_append, List.length_cons] at hl2
  obtain ⟨b, off, he, hbl, hcell⟩ := hr.at (by omega)
  subst he
  clear hr
  generalize hE : i + 1 + body.length = E at *
  have HE : Hid (i + 1 + body.length = E) := hE
  clear hE
  go_enter Try.func28, Try.ntmps28
  go_wp2_with fail
  go_loop [1] (fun t => ∃ (k : Nat) (b2 : List Int), t = .int .i64 k ∧ xs.drop k = b2 ++ 34 :: rest ∧ okBody b2 = true ∧ k + b2.length = E) (fun t => E - (intOf t).toNat)
  case atStart => exact ⟨i + 1, body, by go_num, h, hb, HE.out⟩
  case round =>
    obtain ⟨k, b2, rfl, hd, ho, hk⟩ := hrel
    have HK : Hid (k + b2.length = E) := hk
    clear hk
    cases b2 with
    | nil =>
      obtain ⟨hkx, hx, _⟩ := drop_cons hd
      have hck := hcell k hkx
      rw [hx] at hck
      have hkn : k < n := by omega
      clear hcell hd HE h hx
      go_wp2
      go_ret
      exact ⟨ret_int (by have : k = E := HK.out; omega), rfl⟩
    | cons x l =>
      obtain ⟨hkx, hx, hd'⟩ := drop_cons hd
      have hck := hcell k hkx
      rw [hx] at hck
      have hks : k + 1 + l.length = E := by have := HK.out; simp at this; omega
      have HKS : Hid (k + 1 + l.length = E) := hks
      have hkE : k < E := by omega
      clear hks hcell hx hd
      rcases okBody_cons x l ho with ⟨rfl, y, t, rfl, ht⟩ | ⟨h1, h2, hl⟩
      · go_wp2
        go_round
        case rel =>
          refine ⟨k + 2, t, by go_num, ?_, ht, ?_⟩
          · obtain ⟨_, _, hd2⟩ := drop_cons hd'
            exact hd2
          · have := HKS.out; simp at this; omega
        case measure => simp [intOf]; omega
      · have hx1 : (x == 92) = false := by simpa using h1
        have hx2 : (x == 34) = false := by simpa using h2
        go_wp2
        go_round
        case rel => exact ⟨k + 1, l, by go_num, hd', hl, HKS.out⟩
        case measure => simp [intOf]; omega
end Go.Proofs.Qxb6600588a.Base
