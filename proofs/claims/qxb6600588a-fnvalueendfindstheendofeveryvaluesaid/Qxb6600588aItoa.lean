import Derived.Test.Qxb6600588aClosed
import Derived.Test.Qxb6600588aScalar
namespace Go.Proofs.Qxb6600588a.Base
open Go.RowKit
set_option linter.unusedVariables false
set_option linter.unusedSimpArgs false

/-- The digits' array when the places from k on are written. -/
def ibuf (k : Nat) (ds : List Int) : Array Value := (List.replicate k (Value.int .u8 0) ++ ds.map (Value.int .u8)).toArray

theorem ibuf_step (m : Nat) (ds : List Int) (d : Int) : (ibuf (m + 1) ds).setIfInBounds m (.int .u8 d) = ibuf m (d :: ds) := by
  apply Array.toList_inj.1
  rw [Array.toList_setIfInBounds]
  simp only [ibuf]
  rw [List.replicate_succ', List.append_assoc, List.set_append_right _ _ (by simp)]
  simp

theorem ibuf_at (m : Nat) (ds : List Int) : (ibuf (m + 1) ds)[m]? = some (.int .u8 0) := by
  rw [← Array.getElem?_toList]
  simp only [ibuf]
  rw [List.getElem?_append_left (by simp)]
  simp

theorem slice61 (b m : Nat) (hm : m < 20) (w : World) : (Instr.sliceAt 61 (.pointer (some ⟨b, 0, none⟩)) (some (.int .i64 (m : Int))) none none).run Try.prog w = .ok (.slice (some ⟨b, m, none⟩) (20 - m) (20 - m)) w := by
  have hl : Try.prog.arrayLen 61 = 20 := by kernel_rfl
  have hu : Try.prog.underlying 61 = some (.array (Try.prog.arrayLen 61) (Try.prog.elem 61)) := by kernel_rfl
  have he : ∀ w : World, (sizeOf (Try.prog.elem 61)).run Try.prog w = .ok 1 w := fun w => by kernel_rfl
  rw [run_sliceAt_array_l w 61 _ hu .i64 (m : Int) (by omega) (by rw [hl]; omega), he, hl]
  simp only [Result.andThen, slicedAt, Int.toNat_natCast, Nat.mul_one]
  rw [if_neg (by omega), Go.WideShapes.add_plain, Nat.zero_add]

theorem ibuf_row (w : World) (B m : Nat) (ds : List Int) (j : Nat) (hj : j < ds.length) : (w.alloc (.cells (ibuf m ds) 61)).cell? ((⟨w.heap.size, m, none⟩ : Addr).add j) = some (.int .u8 ds[j]) := by
  rw [Go.WideShapes.add_plain, cell_of_row _ w.heap.size (m + j) (ibuf m ds) 61 (0, 0) (heap_alloc_new w _), ← Array.getElem?_toList]
  simp only [ibuf]
  rw [List.getElem?_append_right (by simp)]
  simp [hj]

theorem plain_digit (x : Int) (h : 48 ≤ x ∧ x ≤ 57) : plain x = true := by
  have h1 : dl x = false := by
    unfold dl
    simp only [Bool.or_eq_false_iff, beq_eq_false_iff_ne]
    omega
  unfold plain
  rw [h1]
  simp
  omega

set_option maxRecDepth 100000 in
set_option maxHeartbeats 1600000 in
theorem itoa_any (B : Nat) (ao : Option Addr) (n cap : Nat) (xs : List Int) (v : Int) (w : World) (hb : Buf w B ao n cap xs) (hB : B ≤ w.heap.size) (hn : n ≤ 1000000000000) :
    Calls Try.prog 21 #[.slice ao n cap, .int .i64 v] w fun e w' =>
      ∃ ao' n' cap' ds, e = .returned (.slice ao' n' cap') ∧ ds ≠ [] ∧ (∀ x ∈ ds, plain x = true) ∧ ds.length ≤ 21 ∧ n' = n + ds.length ∧ Buf w' B ao' n' cap' (xs ++ ds) ∧ Grew w w' (blk ao) (blk ao') := by
  have hl := hb.len
  by_cases h0 : v < 0
  · go_enter Try.func21, Try.ntmps21
    go_wp2_with (at_builtin; refine app rfl (.tmp 12) (.tmp 13) rfl B _ _ _ xs rfl (hb.alloc _) ⟨w.heap.size, 0, none⟩ 1 1 [45] rfl rfl ?c1 ?c2 ?c3 ?c4 ?_)
    case c1 => intro j hj; match j, hj with | 0, _ => simp [Addr.add]
    case c2 => intro y hy; simp at hy; omega
    case c3 => omega
    case c4 => simp; omega
    intro ao1 cap1 w1 hb1 hg1
    have hs1 := hg1.size
    rw [World.size_alloc] at hs1
    have HG := show Hid _ from (Grew.alloc w _ _).trans hg1
    have HB := show Hid _ from hb1
    clear hb1 hg1 hb
    go_wp2_with fail

    have hu := bounds_u64 (wf_wrap .u64 (-IntKind.u64.wrap v))
    obtain ⟨U0, hU0⟩ := Int.eq_ofNat_of_zero_le hu.1
    have hU64 : U0 ≤ 18446744073709551615 := by have h2 := hu.2; rw [hU0] at h2; omega
    have HU : Hid (U0 < 10 ^ 20) := by
      show _ < _
      have : (10 : Nat) ^ 20 = 100000000000000000000 := by decide
      omega
    rw [hU0]
    clear hu hU0
    have HW0 : Hid (w1.alloc (.cells #[.int .u8 0, .int .u8 0, .int .u8 0, .int .u8 0, .int .u8 0, .int .u8 0, .int .u8 0, .int .u8 0, .int .u8 0, .int .u8 0, .int .u8 0, .int .u8 0, .int .u8 0, .int .u8 0, .int .u8 0, .int .u8 0, .int .u8 0, .int .u8 0, .int .u8 0, .int .u8 0] 61) = w1.alloc (.cells (ibuf 20 []) 61)) := rfl
    go_loopw [5, 7] (fun u i wr => ∃ (k U : Nat) (ds : List Int), u = .int .u64 U ∧ i = .int .i64 k ∧ U ≤ 18446744073709551615 ∧ 1 ≤ k ∧ k ≤ 20 ∧ Hid (U < 10 ^ k) ∧ Hid ((∀ x ∈ ds, 48 ≤ x ∧ x ≤ 57) ∧ ds.length + k = 20) ∧ wr = w1.alloc (.cells (ibuf k ds) 61)) (fun _ i _ => (intOf i).toNat)
    case atStart => exact ⟨20, U0, [], rfl, rfl, hU64, by omega, by omega, HU, ⟨by simp, rfl⟩, HW0.out⟩
    case round =>
      obtain ⟨k, U, ds, rfl, rfl, hUm, hk1, hk2, hUk, hds, rfl⟩ := hrel
      obtain ⟨m, rfl⟩ : ∃ m, k = m + 1 := ⟨k - 1, by omega⟩
      have hst := ibuf_step m ds
      have hat := ibuf_at m ds
      have HST := show Hid _ from hst (48 + (U : Int) % 10)
      clear hst
      by_cases hz : U / 10 = 0
      · have hz' : ((U : Int) / 10 == 0) = true := by simp; omega
        clear HU HW0
        have hm20 : m < 20 := by omega
        have hsl := slice61 w1.heap.size m hm20
        have hd0 : 48 ≤ 48 + (U : Int) % 10 ∧ 48 + (U : Int) % 10 ≤ 57 := by omega
        have hds1 := hds.out.1
        have hds2 := hds.out.2
        have hall : ∀ x ∈ (48 + (U : Int) % 10) :: ds, 48 ≤ x ∧ x ≤ 57 := fun x hx => by
          rcases List.mem_cons.1 hx with rfl | hx
          · exact hd0
          · exact hds1 x hx
        have HALL := show Hid _ from hall
        have HLEN : Hid (((48 + (U : Int) % 10) :: ds).length = 20 - m) := by show _ = _; simp; omega
        have hwA : w1.alloc (.cells (ibuf m ((48 + (U : Int) % 10) :: ds)) 61) = w1.alloc (.cells ((ibuf (m + 1) ds).setIfInBounds m (.int .u8 (48 + (U : Int) % 10))) 61) := by rw [HST.out]
        have HROW := show Hid _ from fun j hj => ibuf_row w1 B m ((48 + (U : Int) % 10) :: ds) j hj
        rw [hwA] at HROW
        have HBA := show Hid _ from HB.out.alloc (.cells ((ibuf (m + 1) ds).setIfInBounds m (.int .u8 (48 + (U : Int) % 10))) 61)
        clear hall hds1 hds2 hwA HST
        go_wp2_with (at_builtin; refine app rfl (.tmp 29) (.tmp 31) rfl B _ _ _ _ rfl HBA.out ⟨w1.heap.size, m, none⟩ (20 - m) (20 - m) ((48 + (U : Int) % 10) :: ds) rfl HLEN.out HROW.out ?c5 (by omega) (by simp; omega) ?_)
        case c5 => intro y hy; have := HALL.out y hy; omega
        intro ao9 cap9 w9 hb9 hg9
        go_wp2
        go_ret
        refine ⟨ao9, _, cap9, [45] ++ ((48 + (U : Int) % 10) :: ds), rfl, by simp, ?_, ?_, ?_, ?_, (HG.out.trans (Grew.alloc _ _ _)).trans hg9⟩
        · intro x hx
          rcases List.mem_append.1 hx with hx | hx
          · simp at hx; subst hx; rfl
          · exact plain_digit x (HALL.out x hx)
        · have := HLEN.out; simp at this ⊢; omega
        · have := HLEN.out; simp at this ⊢; omega
        · simpa using hb9
      · have hz' : ((U : Int) / 10 == 0) = false := by simp; omega
        have hUn : Hid (U / 10 < 10 ^ m) := by have := hUk.out; show _ < _; rw [Nat.pow_succ] at this; omega
        have hm1 : 1 ≤ m := by
          cases m with
          | zero => have := hUn.out; simp at this; omega
          | succ m => omega
        have hds' : Hid ((∀ x ∈ (48 + (U : Int) % 10) :: ds, 48 ≤ x ∧ x ≤ 57) ∧ ((48 + (U : Int) % 10) :: ds).length + m = 20) := by
          refine ⟨fun x hx => ?_, by have := hds.out.2; simp; omega⟩
          rcases List.mem_cons.1 hx with rfl | hx
          · omega
          · exact hds.out.1 x hx
        clear HU HW0 hz
        go_wp2
        go_roundw
        case rel => exact ⟨m, U / 10, _, by go_num, rfl, by omega, hm1, by omega, hUn, hds', by rw [HST.out]⟩
        case measure => simp [intOf]
  · go_enter Try.func21, Try.ntmps21
    have HG : Hid (Grew w w (blk ao) (blk ao)) := Grew.refl w _
    have HB := show Hid _ from hb
    clear hb
    go_wp2_with fail

    have hu := bounds_u64 (wf_wrap .u64 v)
    obtain ⟨U0, hU0⟩ := Int.eq_ofNat_of_zero_le hu.1
    have hU64 : U0 ≤ 18446744073709551615 := by have h2 := hu.2; rw [hU0] at h2; omega
    have HU : Hid (U0 < 10 ^ 20) := by
      show _ < _
      have : (10 : Nat) ^ 20 = 100000000000000000000 := by decide
      omega
    rw [hU0]
    clear hu hU0
    have HW0 : Hid (w.alloc (.cells #[.int .u8 0, .int .u8 0, .int .u8 0, .int .u8 0, .int .u8 0, .int .u8 0, .int .u8 0, .int .u8 0, .int .u8 0, .int .u8 0, .int .u8 0, .int .u8 0, .int .u8 0, .int .u8 0, .int .u8 0, .int .u8 0, .int .u8 0, .int .u8 0, .int .u8 0, .int .u8 0] 61) = w.alloc (.cells (ibuf 20 []) 61)) := rfl
    go_loopw [5, 7] (fun u i wr => ∃ (k U : Nat) (ds : List Int), u = .int .u64 U ∧ i = .int .i64 k ∧ U ≤ 18446744073709551615 ∧ 1 ≤ k ∧ k ≤ 20 ∧ Hid (U < 10 ^ k) ∧ Hid ((∀ x ∈ ds, 48 ≤ x ∧ x ≤ 57) ∧ ds.length + k = 20) ∧ wr = w.alloc (.cells (ibuf k ds) 61)) (fun _ i _ => (intOf i).toNat)
    case atStart => exact ⟨20, U0, [], rfl, rfl, hU64, by omega, by omega, HU, ⟨by simp, rfl⟩, HW0.out⟩
    case round =>
      obtain ⟨k, U, ds, rfl, rfl, hUm, hk1, hk2, hUk, hds, rfl⟩ := hrel
      obtain ⟨m, rfl⟩ : ∃ m, k = m + 1 := ⟨k - 1, by omega⟩
      have hst := ibuf_step m ds
      have hat := ibuf_at m ds
      have HST := show Hid _ from hst (48 + (U : Int) % 10)
      clear hst
      by_cases hz : U / 10 = 0
      · have hz' : ((U : Int) / 10 == 0) = true := by simp; omega
        clear HU HW0
        have hm20 : m < 20 := by omega
        have hsl := slice61 w.heap.size m hm20
        have hd0 : 48 ≤ 48 + (U : Int) % 10 ∧ 48 + (U : Int) % 10 ≤ 57 := by omega
        have hds1 := hds.out.1
        have hds2 := hds.out.2
        have hall : ∀ x ∈ (48 + (U : Int) % 10) :: ds, 48 ≤ x ∧ x ≤ 57 := fun x hx => by
          rcases List.mem_cons.1 hx with rfl | hx
          · exact hd0
          · exact hds1 x hx
        have HALL := show Hid _ from hall
        have HLEN : Hid (((48 + (U : Int) % 10) :: ds).length = 20 - m) := by show _ = _; simp; omega
        have hwA : w.alloc (.cells (ibuf m ((48 + (U : Int) % 10) :: ds)) 61) = w.alloc (.cells ((ibuf (m + 1) ds).setIfInBounds m (.int .u8 (48 + (U : Int) % 10))) 61) := by rw [HST.out]
        have HROW := show Hid _ from fun j hj => ibuf_row w B m ((48 + (U : Int) % 10) :: ds) j hj
        rw [hwA] at HROW
        have HBA := show Hid _ from HB.out.alloc (.cells ((ibuf (m + 1) ds).setIfInBounds m (.int .u8 (48 + (U : Int) % 10))) 61)
        clear hall hds1 hds2 hwA HST
        go_wp2_with (at_builtin; refine app rfl (.tmp 29) (.tmp 31) rfl B _ _ _ _ rfl HBA.out ⟨w.heap.size, m, none⟩ (20 - m) (20 - m) ((48 + (U : Int) % 10) :: ds) rfl HLEN.out HROW.out ?c5 (by omega) (by simp; omega) ?_)
        case c5 => intro y hy; have := HALL.out y hy; omega
        intro ao9 cap9 w9 hb9 hg9
        go_wp2
        go_ret
        refine ⟨ao9, _, cap9, [] ++ ((48 + (U : Int) % 10) :: ds), rfl, by simp, ?_, ?_, ?_, ?_, (HG.out.trans (Grew.alloc _ _ _)).trans hg9⟩
        · intro x hx
          exact plain_digit x (HALL.out x (by simpa using hx))
        · have := HLEN.out; simp at this ⊢; omega
        · have := HLEN.out; simp at this ⊢; omega
        · simpa using hb9
      · have hz' : ((U : Int) / 10 == 0) = false := by simp; omega
        have hUn : Hid (U / 10 < 10 ^ m) := by have := hUk.out; show _ < _; rw [Nat.pow_succ] at this; omega
        have hm1 : 1 ≤ m := by
          cases m with
          | zero => have := hUn.out; simp at this; omega
          | succ m => omega
        have hds' : Hid ((∀ x ∈ (48 + (U : Int) % 10) :: ds, 48 ≤ x ∧ x ≤ 57) ∧ ((48 + (U : Int) % 10) :: ds).length + m = 20) := by
          refine ⟨fun x hx => ?_, by have := hds.out.2; simp; omega⟩
          rcases List.mem_cons.1 hx with rfl | hx
          · omega
          · exact hds.out.1 x hx
        clear HU HW0 hz
        go_wp2
        go_roundw
        case rel => exact ⟨m, U / 10, _, by go_num, rfl, by omega, hm1, by omega, hUn, hds', by rw [HST.out]⟩
        case measure => simp [intOf]
end Go.Proofs.Qxb6600588a.Base
