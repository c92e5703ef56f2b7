import Derived.Test.Qxb6601856aSmall
import Derived.Lib.SlBytesConst
import Derived.Lib.SlBytesRow
namespace Go.Proofs.Qxb6601856a.Base
open Go.RowKit
set_option linter.unusedVariables false
set_option linter.unusedSimpArgs false

theorem indexByte_first (c : UInt8) : ∀ (l : List UInt8) (k : Nat), l[k]? = some c → (∀ m, m < k → l[m]? ≠ some c) → Lib.indexByte l c = k
  | [], k, h, _ => by simp at h
  | b :: l, k, h, hm => by
    unfold Lib.indexByte
    cases k with
    | zero => simp at h; simp [h]
    | succ k =>
      have h0 : b ≠ c := by have := hm 0 (by omega); simpa using this
      have ih := indexByte_first c l k (by simpa using h) (fun m hk => by have := hm (m + 1) (by omega); simpa using this)
      rw [ih]
      have : ((k : Int) == -1) = false := by rw [beq_eq_false_iff_ne]; omega
      simp [h0, this]

theorem byte32 (x : Int) (h : 0 ≤ x ∧ x < 256) (e : UInt8.ofNat x.toNat = 32) : x = 32 := by
  have := congrArg UInt8.toNat e
  simp at this
  omega

theorem space_at (ms r : List Int) (hw : ∀ x ∈ ms, 0 ≤ x ∧ x < 256) (hn : (32 : Int) ∉ ms) : Lib.indexByte (Lib.bytesOf (ms ++ 32 :: r)) 32 = (ms.length : Int) := by
  apply indexByte_first
  · unfold Lib.bytesOf
    simp
  · intro m hm hc
    unfold Lib.bytesOf at hc
    rw [List.getElem?_map, List.getElem?_append_left hm, List.getElem?_eq_getElem hm] at hc
    simp only [Option.map_some, Option.some.injEq] at hc
    have := byte32 _ (hw _ (List.getElem_mem hm)) hc
    exact hn (this ▸ List.getElem_mem hm)

set_option maxHeartbeats 1000000 in
/-- bytes.IndexByte at a space. -/
theorem idx30 (b off n c : Nat) (xs : List Int) (k : Int) (w : World) (hl : xs.length = n) (hc : ∀ j, j < n → w.cell? ⟨b, off + j, none⟩ = some (.int .u8 (xs.getD j 0))) (hk : Lib.indexByte (Lib.bytesOf xs) 32 = k) :
    Calls Try.prog 30 #[.slice (some ⟨b, off, none⟩) n c, .int .u8 32] w fun e w' => e = .returned (.int .i64 k) ∧ w = w' := by
  have hrun := Lib.run_indexByteSlice (P := Try.prog) (w := w) b off n c xs hl hc 32
  have e32 : (32 : Int).toNat.toUInt8 = 32 := by decide
  rw [e32, hk] at hrun
  clear hl hc hk
  go_enter Try.func30, Try.ntmps30
  go_wp2
  rw [run_callFunc_extern Try.func36 (by kernel_rfl) (by kernel_rfl) (by kernel_rfl) (e := Extern.BytealgIndexByte.indexByte) (by kernel_rfl), hrun]
  simp only [Result.andThen]
  rw [Oper.upon_value]
  go_wp2
  go_ret
  exact ⟨rfl, rfl⟩

set_option maxRecDepth 100000 in
set_option maxHeartbeats 4000000 in
/-- bytes.Index at a separator of one space. -/
theorem idx28 (b off n c b2 d : Nat) (xs : List Int) (k : Int) (w : World) (hl : xs.length = n) (hc : ∀ j, j < n → w.cell? ⟨b, off + j, none⟩ = some (.int .u8 (xs.getD j 0))) (hk : Lib.indexByte (Lib.bytesOf xs) 32 = k) (h2 : w.cell? ⟨b2, 0, none⟩ = some (.int .u8 32)) :
    Calls Try.prog 28 #[.slice (some ⟨b, off, none⟩) n c, .slice (some ⟨b2, 0, none⟩) 1 d] w fun e w' => e = .returned (.int .i64 k) ∧ w = w' := by
  have h := idx30 b off n c xs k w hl hc hk
  clear hl hc hk
  go_enter Try.func28, Try.ntmps28
  go_wp2_with fail
  refine h.mono ?_
  rintro e w' ⟨rfl, rfl⟩
  go_wp2
  go_ret
  exact ⟨rfl, rfl⟩

set_option maxRecDepth 100000 in
set_option maxHeartbeats 4000000 in
/-- bytes.Cut at the first space, something behind it. -/
theorem cut_any (b off n c b2 d : Nat) (ms r : List Int) (w : World) (hr : Row w (some ⟨b, off, none⟩) n (ms ++ 32 :: r)) (hn : n ≤ 1099511627776) (hnc : n ≤ c) (hcm : c ≤ maxLen) (h32 : (32 : Int) ∉ ms) (hp : 0 < r.length) (h2 : w.cell? ⟨b2, 0, none⟩ = some (.int .u8 32)) :
    Calls Try.prog 25 #[.slice (some ⟨b, off, none⟩) n c, .slice (some ⟨b2, 0, none⟩) 1 d] w fun e w' => e = .returned (.tuple #[.slice (some ⟨b, off, none⟩) ms.length c, .slice (some ⟨b, off + (ms.length + 1), none⟩) r.length (c - (ms.length + 1)), .bool true]) ∧ ∃ q, w' = w.drewN q := by
  have hl := hr.len
  simp only [List.length_append, List.length_cons] at hl
  obtain ⟨b', off', he, hb, hc⟩ := hr.at (by omega)
  cases he
  have h := idx28 b off n c b2 d (ms ++ 32 :: r) ms.length w hr.len hc (space_at ms r (fun x hx => hr.wf x (by simp [hx])) h32) h2
  clear hr hc h32
  unfold maxLen at hcm
  generalize hm : ms.length = m at *
  generalize hrr : r.length = k at *
  clear hm hrr
  obtain rfl : k = n - (m + 1) := by omega
  have f1 : ((m : Int) + 1 : Int) < (n : Int) := by omega
  have f2 : (m : Int) ≤ (c : Int) := by omega
  have f3 : ((m : Int) + 1 : Int) ≤ (n : Int) := by omega
  have f4 : (n : Int) ≤ (c : Int) := by omega
  go_enter Try.func25, Try.ntmps25
  go_wp2_with fail
  refine h.mono ?_
  rintro e w' ⟨rfl, rfl⟩
  go_wp2_with fail
  go_quiet (fail)
  go_wp2
  go_ret3
  exact ⟨rfl, _, rfl⟩

theorem below_drewN {B : Nat} {a w : World} (h : Below B a w) (n : Nat) : Below B a (w.drewN n) := h.trans ⟨rfl, rfl, rfl, Nat.le_refl _, fun _ _ => rfl⟩

theorem cut_below (b off n c b2 d : Nat) (ms r : List Int) (w : World) (hr : Row w (some ⟨b, off, none⟩) n (ms ++ 32 :: r)) (hn : n ≤ 1099511627776) (hnc : n ≤ c) (hcm : c ≤ maxLen) (h32 : (32 : Int) ∉ ms) (hp : 0 < r.length) (h2 : w.cell? ⟨b2, 0, none⟩ = some (.int .u8 32)) :
    Calls Try.prog 25 #[.slice (some ⟨b, off, none⟩) n c, .slice (some ⟨b2, 0, none⟩) 1 d] w fun e w' => e = .returned (.tuple #[.slice (some ⟨b, off, none⟩) ms.length c, .slice (some ⟨b, off + (ms.length + 1), none⟩) r.length (c - (ms.length + 1)), .bool true]) ∧ Below w.heap.size w w' :=
  (cut_any b off n c b2 d ms r w hr hn hnc hcm h32 hp h2).mono fun e w' ⟨h1, q, h2⟩ => ⟨h1, by rw [h2]; exact below_drewN (Below.refl _ _) q⟩

/-- The part of a row from m on. -/
theorem Row.drop {w : World} {b off n : Nat} {xs ys : List Int} (h : Row w (some ⟨b, off, none⟩) n (xs ++ ys)) : Row w (some ⟨b, off + xs.length, none⟩) ys.length ys where
  len := rfl
  cell := fun x hx i hi => by
    cases hx
    have hl := h.len
    simp only [List.length_append] at hl
    have hc := h.cell _ rfl (xs.length + i) (by omega)
    rw [Go.WideShapes.add_plain] at hc ⊢
    rw [← Nat.add_assoc] at hc
    rw [hc]
    rw [List.getD_eq_getElem?_getD, List.getElem?_append_right (by omega), Nat.add_sub_cancel_left, ← List.getD_eq_getElem?_getD]
  zero := by simp
  wf := fun x hx => h.wf x (by simp [hx])

theorem Row.front {w : World} {a : Option Addr} {n : Nat} {xs ys : List Int} (h : Row w a n (xs ++ ys)) : Row w a xs.length xs where
  len := rfl
  cell := fun x hx i hi => by
    have hl := h.len
    simp only [List.length_append] at hl
    rw [h.cell x hx i (by omega)]
    simp [List.getElem?_append, hi]
  zero := fun hx => by
    have hl := h.len
    simp only [List.length_append] at hl
    have := h.zero hx
    omega
  wf := fun x hx => h.wf x (by simp [hx])
end Go.Proofs.Qxb6601856a.Base
