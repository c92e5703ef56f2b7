import Derived.Test.Qxb6601856aRows
import Derived.WalkKit
import Derived.WalkLawsBesides
import Derived.Below
import Derived.OpenShut
import Derived.Lib.Bytealg
import Derived.Lib.Strings
import Derived.Lib.BytesEntry
import Derived.Laws.Externs
import Derived.Lib.Walk
import Derived.BigQuiet
import Derived.Deep.QuietTactic
namespace Go.Proofs.Qxb6601856a.Base
open Go.RowKit
set_option linter.unusedVariables false
set_option linter.unusedSimpArgs false

/-- The slice at address 'a', of length 'n', reads as the bytes 'xs'. -/
structure Row (w : World) (a : Option Addr) (n : Nat) (xs : List Int) : Prop where
  len : xs.length = n
  cell : ∀ x, a = some x → ∀ i, i < n → w.cell? (x.add i) = some (.int .u8 (xs.getD i 0))
  zero : a = none → n = 0
  wf : ∀ x ∈ xs, 0 ≤ x ∧ x < 256

theorem lt_of_cell {w : World} {p : Addr} {v : Value} (h : w.cell? p = some v) : p.block < w.heap.size := by
  by_cases hlt : p.block < w.heap.size
  · exact hlt
  · exfalso
    have : w.heap[p.block]? = none := by simp; omega
    simp [World.cell?, this] at h

theorem Row.below {w w' : World} {a : Option Addr} {n : Nat} {xs : List Int} (h : Row w a n xs) (hb : Below w.heap.size w w') : Row w' a n xs where
  len := h.len
  cell := fun x hx i hi => by
    have hc := h.cell x hx i hi
    rw [hb.cell (lt_of_cell hc)]; exact hc
  zero := h.zero
  wf := h.wf

theorem Row.at {w : World} {a : Option Addr} {n : Nat} {xs : List Int} (h : Row w a n xs) (hp : 0 < n) :
    ∃ b off, a = some ⟨b, off, none⟩ ∧ b < w.heap.size ∧ ∀ j, j < n → w.cell? ⟨b, off + j, none⟩ = some (.int .u8 (xs.getD j 0)) := by
  obtain ⟨hl, hc, hz, _⟩ := h
  subst hl
  cases a with
  | none => have := hz rfl; omega
  | some x =>
    obtain ⟨b, off, rfl, h⟩ := ints_at (hc x rfl) hp
    exact ⟨b, off, rfl, by have := lt_of_cell (h 0 hp); exact this, h⟩

/-- Visible. -/
def Vis (c : Int) : Prop := 33 ≤ c ∧ c ≤ 126

/-- The delimiters. -/
def dels : List Int := [34, 40, 41, 44, 47, 58, 59, 60, 61, 62, 63, 64, 91, 92, 93, 123, 125]

/-- A character of a token. -/
def Tch (c : Int) : Prop := Vis c ∧ c ∉ dels

def BPost (P : Prop) (w : World) (e : Ending) (w' : World) : Prop := ∃ r : Bool, e = .returned (.bool r) ∧ (r = true → P) ∧ w = w'

set_option maxHeartbeats 1000000 in
theorem vis_yes (c : Int) (w : World) (h : Vis c) : Calls Try.prog 23 #[.int .u8 c] w fun e w' => e = .returned (.bool true) ∧ w = w' := by
  obtain ⟨h1, h2⟩ := h
  go_enter Try.func23, Try.ntmps23
  go_wp2
  go_ret
  exact ⟨rfl, rfl⟩

set_option maxHeartbeats 1000000 in
theorem vis_no (c : Int) (w : World) (h : ¬ Vis c) : Calls Try.prog 23 #[.int .u8 c] w fun e w' => e = .returned (.bool false) ∧ w = w' := by
  by_cases h1 : 33 ≤ c
  · have h2 : ¬ c ≤ 126 := fun k => h ⟨h1, k⟩
    have h3 : decide (c ≤ 126) = false := decide_eq_false h2
    clear h
    go_enter Try.func23, Try.ntmps23
    go_wp2
    go_ret
    exact ⟨rfl, rfl⟩
  · have h3 : decide (33 ≤ c) = false := decide_eq_false h1
    clear h
    go_enter Try.func23, Try.ntmps23
    go_wp2
    go_ret
    exact ⟨rfl, rfl⟩

theorem vis_any (c : Int) (w : World) : Calls Try.prog 23 #[.int .u8 c] w (BPost (Vis c) w) := by
  by_cases h : Vis c
  · exact (vis_yes c w h).mono fun e w' ⟨h1, h2⟩ => ⟨true, h1, fun _ => h, h2⟩
  · exact (vis_no c w h).mono fun e w' ⟨h1, h2⟩ => ⟨false, h1, (fun k => by cases k), h2⟩

set_option maxRecDepth 100000 in
set_option maxHeartbeats 4000000 in
theorem tchar_any (c : Int) (w : World) : Calls Try.prog 22 #[.int .u8 c] w (BPost (Tch c) w) := by
  by_cases h : Vis c
  · have hv := vis_yes c w h
    by_cases hd : c ∈ dels
    · unfold dels at hd
      have hv2 := hv
      simp only [List.mem_cons, List.not_mem_nil, or_false] at hd
      rcases hd with rfl | rfl | rfl | rfl | rfl | rfl | rfl | rfl | rfl | rfl | rfl | rfl | rfl | rfl | rfl | rfl | rfl
      all_goals
        clear h
        go_enter Try.func22, Try.ntmps22
        go_wp2_with fail
        refine hv.mono ?_
        rintro e w' ⟨rfl, rfl⟩
        go_wp2
        go_ret
        exact ⟨false, rfl, (fun k => by cases k), rfl⟩
    · have ht : Hid (Tch c) := ⟨h, hd⟩
      unfold dels at hd
      simp only [List.mem_cons, List.not_mem_nil, or_false, not_or] at hd
      obtain ⟨d1, d2, d3, d4, d5, d6, d7, d8, d9, d10, d11, d12, d13, d14, d15, d16, d17⟩ := hd
      simp only [← ne_eq, ← beq_eq_false_iff_ne] at d1 d2 d3 d4 d5 d6 d7 d8 d9 d10 d11 d12 d13 d14 d15 d16 d17
      clear h
      go_enter Try.func22, Try.ntmps22
      go_wp2_with fail
      refine hv.mono ?_
      rintro e w' ⟨rfl, rfl⟩
      go_wp2
      go_ret
      exact ⟨true, rfl, fun _ => ht.out, rfl⟩
  · have hv := vis_no c w h
    clear h
    go_enter Try.func22, Try.ntmps22
    go_wp2_with fail
    refine hv.mono ?_
    rintro e w' ⟨rfl, rfl⟩
    go_wp2
    go_ret
    exact ⟨false, rfl, (fun k => by cases k), rfl⟩
end Go.Proofs.Qxb6601856a.Base
