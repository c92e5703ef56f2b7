import Derived.Test.Qxb6601856aLoops
namespace Go.Proofs.Qxb6601856a.Base
open Go.RowKit
set_option linter.unusedVariables false
set_option linter.unusedSimpArgs false

/-- The marks of a token that are neither letters nor digits. -/
def marks : List Int := [33, 35, 36, 37, 38, 39, 42, 43, 45, 46, 94, 95, 96, 124, 126]

theorem classes (c : Int) (h : Tch c) : (97 ≤ c ∧ c ≤ 122) ∨ (65 ≤ c ∧ c ≤ 90) ∨ (48 ≤ c ∧ c ≤ 57) ∨ (c ∈ marks ∧ (c < 48 ∨ (90 < c ∧ c < 97) ∨ 122 < c)) := by
  obtain ⟨⟨h1, h2⟩, hd⟩ := h
  obtain ⟨m, rfl⟩ := Int.eq_ofNat_of_zero_le (show 0 ≤ c by omega)
  have hm : m < 127 := by omega
  have key : ∀ m : Fin 127, 33 ≤ ((m : Nat) : Int) → ((m : Nat) : Int) ∉ dels → (97 ≤ ((m : Nat) : Int) ∧ ((m : Nat) : Int) ≤ 122) ∨ (65 ≤ ((m : Nat) : Int) ∧ ((m : Nat) : Int) ≤ 90) ∨ (48 ≤ ((m : Nat) : Int) ∧ ((m : Nat) : Int) ≤ 57) ∨ (((m : Nat) : Int) ∈ marks ∧ (((m : Nat) : Int) < 48 ∨ (90 < ((m : Nat) : Int) ∧ ((m : Nat) : Int) < 97) ∨ 122 < ((m : Nat) : Int))) := by
    decide +kernel
  exact key ⟨m, hm⟩ h1 hd

set_option maxHeartbeats 1000000 in
/-- internal/stringslite.IndexByte. -/
theorem lite_any (s : ByteArray) (c : Int) (w : World) :
    Calls Try.prog 35 #[.string s, .int .u8 c] w fun e w' => e = .returned (.int .i64 (Lib.indexByte s.data.toList c.toNat.toUInt8)) ∧ w = w' := by
  go_enter Try.func35, Try.ntmps35
  go_wp2
  rw [run_callFunc_extern Try.func38 (by kernel_rfl) (by kernel_rfl) (by kernel_rfl) (e := Extern.BytealgIndexByte.indexByte) (by kernel_rfl), Lib.run_indexByteString]
  simp only [Result.andThen]
  rw [Oper.upon_value]
  go_wp2
  go_ret
  exact ⟨rfl, rfl⟩

set_option maxHeartbeats 1000000 in
/-- strings.IndexByte. -/
theorem indexByte_any (s : ByteArray) (c : Int) (w : World) :
    Calls Try.prog 29 #[.string s, .int .u8 c] w fun e w' => e = .returned (.int .i64 (Lib.indexByte s.data.toList c.toNat.toUInt8)) ∧ w = w' := by
  have h := lite_any s c w
  go_enter Try.func29, Try.ntmps29
  go_wp2_with fail
  refine h.mono ?_
  rintro e w' ⟨rfl, rfl⟩
  go_wp2
  go_ret
  exact ⟨rfl, rfl⟩

theorem mark_found (c : Int) (h : c ∈ marks) : 0 ≤ Lib.indexByte ([33, 35, 36, 37, 38, 39, 42, 43, 45, 46, 94, 95, 96, 124, 126] : List UInt8) c.toNat.toUInt8 := by
  unfold marks at h
  simp only [List.mem_cons, List.not_mem_nil, or_false] at h
  rcases h with rfl | rfl | rfl | rfl | rfl | rfl | rfl | rfl | rfl | rfl | rfl | rfl | rfl | rfl | rfl
  all_goals decide +kernel

/-- .. at a mark. -/
theorem mark_any (c : Int) (w : World) (h : c ∈ marks) :
    Calls Try.prog 29 #[.string { data := #[33, 35, 36, 37, 38, 39, 42, 43, 45, 46, 94, 95, 96, 124, 126] }, .int .u8 c] w fun e w' => (∃ k : Int, 0 ≤ k ∧ e = .returned (.int .i64 k)) ∧ w = w' :=
  (indexByte_any _ c w).mono fun e w' ⟨h1, h2⟩ => ⟨⟨_, mark_found c h, h1⟩, h2⟩

set_option maxRecDepth 100000 in
set_option maxHeartbeats 8000000 in
/-- isToken. -/
theorem token_any (a : Option Addr) (n c : Nat) (xs : List Int) (w : World) (hr : Row w a n xs) (hn : n ≤ 1048576) (hp : 0 < n) (hT : ∀ x ∈ xs, Tch x) :
    Calls Try.prog 26 #[.slice a n c] w fun e w' => e = .returned (.bool true) ∧ w = w' := by
  obtain ⟨b, off, rfl, hb, hc⟩ := hr.at hp
  have hl := show Hid _ from hr.len
  have HC := show Hid _ from hc
  have HT := show Hid _ from hT
  clear hr hc hT
  go_enter Try.func26, Try.ntmps26
  go_wp2
  go_loop [7] (fun i => ∃ k : Nat, k ≤ n ∧ i = .int .i64 k) (fun i => n - (intOf i).toNat)
  case atStart => exact ⟨0, Nat.zero_le _, rfl⟩
  case round =>
    obtain ⟨k, hk, rfl⟩ := hrel
    by_cases hlt : k < n
    · have hck := HC.out k hlt
      have htk : Tch (xs.getD k 0) := by
        have := hl.out
        rw [getD_getElem xs k (by omega)]
        exact HT.out _ (List.getElem_mem _)
      generalize xs.getD k 0 = x at hck htk
      have hcl := classes x htk
      clear htk
      rcases hcl with ⟨h1, h2⟩ | ⟨h1, h2⟩ | ⟨h1, h2⟩ | ⟨hm, hcl⟩
      · go_wp2
        go_round
        case rel => exact ⟨k + 1, by omega, by go_num⟩
        case measure => simp [intOf]; omega
      · have d1 : decide (97 ≤ x) = false := decide_eq_false (by omega)
        go_wp2
        go_round
        case rel => exact ⟨k + 1, by omega, by go_num⟩
        case measure => simp [intOf]; omega
      · have d1 : decide (97 ≤ x) = false := decide_eq_false (by omega)
        have d2 : decide (65 ≤ x) = false := decide_eq_false (by omega)
        go_wp2
        go_round
        case rel => exact ⟨k + 1, by omega, by go_num⟩
        case measure => simp [intOf]; omega
      · have hI := mark_any x w hm
        clear hm
        rcases hcl with hcl | ⟨h1, h2⟩ | hcl
        · have d1 : decide (97 ≤ x) = false := decide_eq_false (by omega)
          have d2 : decide (65 ≤ x) = false := decide_eq_false (by omega)
          have d3 : decide (48 ≤ x) = false := decide_eq_false (by omega)
          go_wp2_with fail
          refine hI.mono ?_
          rintro e w' ⟨⟨q, hq, rfl⟩, rfl⟩
          go_wp2
          go_round
          case rel => exact ⟨k + 1, by omega, by go_num⟩
          case measure => simp [intOf]; omega
        · have d1 : decide (97 ≤ x) = false := decide_eq_false (by omega)
          have d2 : 65 ≤ x := by omega
          have d3 : decide (x ≤ 90) = false := decide_eq_false (by omega)
          have d4 : 48 ≤ x := by omega
          have d5 : decide (x ≤ 57) = false := decide_eq_false (by omega)
          go_wp2_with fail
          refine hI.mono ?_
          rintro e w' ⟨⟨q, hq, rfl⟩, rfl⟩
          go_wp2
          go_round
          case rel => exact ⟨k + 1, by omega, by go_num⟩
          case measure => simp [intOf]; omega
        · have d0 : 97 ≤ x := by omega
          have d1 : decide (x ≤ 122) = false := decide_eq_false (by omega)
          have d2 : 65 ≤ x := by omega
          have d3 : decide (x ≤ 90) = false := decide_eq_false (by omega)
          have d4 : 48 ≤ x := by omega
          have d5 : decide (x ≤ 57) = false := decide_eq_false (by omega)
          go_wp2_with fail
          refine hI.mono ?_
          rintro e w' ⟨⟨q, hq, rfl⟩, rfl⟩
          go_wp2
          go_round
          case rel => exact ⟨k + 1, by omega, by go_num⟩
          case measure => simp [intOf]; omega
    · obtain rfl : k = n := by omega
      go_wp2
      go_ret
      exact ⟨rfl, rfl⟩
end Go.Proofs.Qxb6601856a.Base
