import Derived.Test.Qxb6601689aValue
import Derived.Lib.Bytealg
import Derived.Lib.Strings
import Derived.Laws.Externs
import Derived.Lib.Walk
namespace Go.Proofs.Qxb6601689a.Base
open Go.RowKit
set_option linter.unusedVariables false
set_option linter.unusedSimpArgs false

theorem indexByte_first (c : UInt8) : ∀ (l : List UInt8) (k : Nat), l[k]? = some c → (∀ m, m < k → l[m]? ≠ some c) → Lib.indexByte l c = k
  | [], k, h, _ => by simp at h
  | b :: l, k, h, hm => by
    unfold Lib.indexByte
    cases k with
    | zero => simp at h; simp [h]
    | succ k =>
      have h0 : b ≠ c := by have := hm 0 (by omega); simpa using this
      have ih := indexByte_first c l k (by simpa using h) (fun m hk => by have := hm (m + 1) (by omega); simpa using this)
      rw [ih]
      have : ((k : Int) == -1) = false := by rw [beq_eq_false_iff_ne]; omega
      simp [h0, this]

theorem data_at (s : ByteArray) (k : Nat) (h : k < s.size) : s.data.toList[k]? = some s[k] := by
  rw [Array.getElem?_toList, Array.getElem?_eq_getElem (by exact h)]
  rfl

theorem byte_eq (s : ByteArray) (k : Nat) (h : k < s.size) (c : UInt8) : s[k] = c ↔ byteAt s k = (c.toNat : Int) := by
  rw [byteAt_lt s k h]
  constructor
  · intro e; rw [e]
  · intro e; exact UInt8.toNat_inj.1 (by omega)

theorem extract_at (s : ByteArray) (i j k : Nat) (hj : j ≤ s.size) (hk : i + k < j) : (s.extract i j).data.toList[k]? = some s[i + k] := by
  rw [ByteArray.data_extract, Array.toList_extract, List.extract_eq_take_drop, List.getElem?_take, if_pos (by omega), List.getElem?_drop, data_at s (i + k) (by omega)]

theorem indexByte_cut (s : ByteArray) (i e : Nat) (hie : i < e) (he : e < s.size) (h1 : byteAt s e = 101) (h0 : byteAt s i ≠ 101) (h2 : ∀ k, i < k → k < e → byteAt s k ≠ 101) :
    Lib.indexByte (s.extract i s.size).data.toList 101 = ((e - i : Nat) : Int) := by
  apply indexByte_first
  · rw [extract_at s i s.size (e - i) (Nat.le_refl _) (by omega)]
    have : i + (e - i) = e := by omega
    simp only [this]
    rw [(byte_eq s e he 101).2 h1]
  · intro m hm hc
    rw [extract_at s i s.size m (Nat.le_refl _) (by omega)] at hc
    have hc' := (byte_eq s (i + m) (by omega) 101).1 (by simpa using hc)
    by_cases e0 : m = 0
    · subst e0; exact h0 hc'
    · exact h2 (i + m) (by omega) (by omega) hc'

set_option maxHeartbeats 1000000 in
/-- strings.IndexByte. -/
theorem indexByte_any (s : ByteArray) (c : Int) (w : World) :
    Calls Try.prog 24 #[.string s, .int .u8 c] w fun e w' => e = .returned (.int .i64 (Lib.indexByte s.data.toList c.toNat.toUInt8)) ∧ w = w' := by
  go_enter Try.func24, Try.ntmps24
  go_wp2
  rw [run_callFunc_extern Try.func26 (by kernel_rfl) (by kernel_rfl) (by kernel_rfl) (e := Extern.BytealgIndexByte.indexByte) (by kernel_rfl), Lib.run_indexByteString]
  simp only [Result.andThen]
  rw [Oper.upon_value]
  go_wp2
  go_ret
  exact ⟨rfl, rfl⟩

/-- What strAt answers. -/
def TPost (j : Nat) (w : World) (e : Ending) (w' : World) : Prop := ∃ t : ByteArray, e = .returned (.tuple #[.string t, .int .i64 j]) ∧ w = w'

set_option maxRecDepth 100000 in
set_option maxHeartbeats 2000000 in
theorem strAt_any (s : ByteArray) (i j : Nat) (w : World) (hs : s.size ≤ 1048576) (h : StrLeaf (byteAt s) s.size i j) :
    Calls Try.prog 22 #[.string s, .int .i64 i] w (TPost j w) := by
  obtain ⟨c, hic, hdig, h58, hj, hjn⟩ := h
  have HJ : Hid (j = c + 1 + num (byteAt s) i (c - i)) := hj
  have hcap : num (byteAt s) i (c - i) ≤ s.size := by omega
  have hcn : c < s.size := by omega
  have HDIG := show Hid _ from hdig
  have H58 := show Hid _ from h58
  clear hdig h58 hj
  go_enter Try.func22, Try.ntmps22
  go_wp2_with fail
  go_loop [1, 6] (fun kv nv => ∃ k v : Nat, kv = .int .i64 k ∧ nv = .int .i64 v ∧ i ≤ k ∧ k ≤ c ∧ v ≤ s.size ∧ Hid (v = num (byteAt s) i (k - i))) (fun kv _ => c - (intOf kv).toNat)
  case atStart => exact ⟨i, 0, rfl, rfl, Nat.le_refl _, by omega, by omega, by show _ = _; rw [Nat.sub_self]; rfl⟩
  case round =>
    obtain ⟨k, v, rfl, rfl, hik, hkc, hv, hnum⟩ := hrel
    by_cases hlt : k < c
    · have hks : k < s.size := by omega
      have hd := HDIG.out k hik hlt
      rw [byteAt_lt s k hks] at hd
      obtain ⟨hd1, hd2⟩ := hd
      have hne : ((s[k].toNat : Int) != 58) = true := by simp; omega
      have hstep : Hid (num (byteAt s) i (k + 1 - i) = v * 10 + ((s[k].toNat : Int) - 48).toNat) := by
        show _ = _
        rw [show k + 1 - i = (k - i) + 1 by omega]
        simp only [num]
        rw [← hnum.out, show i + (k - i) = k by omega, byteAt_lt s k hks]
      have hle : v * 10 + ((s[k].toNat : Int) - 48).toNat ≤ s.size := by
        rw [← hstep.out]
        exact Nat.le_trans (num_mono _ _ _ _ (by omega)) hcap
      go_wp2
      go_round
      case rel => exact ⟨k + 1, v * 10 + ((s[k].toNat : Int) - 48).toNat, by go_num, by first | rfl | (congr 1; omega), by omega, by omega, hle, hstep.out.symm⟩
      case measure => simp [intOf]; omega
    · obtain rfl : k = c := by omega
      have HB := show Hid _ from byteAt_lt s k hcn
      have heq : ((s[k].toNat : Int) != 58) = false := by have := H58.out; rw [HB.out] at this; simpa using this
      have hjv : Hid (j = k + 1 + v) := by have := HJ.out; show _ = _; rw [hnum.out]; exact this
      have hfit : (k : Int) + 1 + (v : Int) ≤ (s.size : Int) := by have := hjv.out; omega
      go_wp2
      go_ret2
      exact ⟨_, congrArg (fun q => Ending.returned (.tuple #[_, .int .i64 q])) (by have := hjv.out; omega), rfl⟩

set_option maxRecDepth 100000 in
set_option maxHeartbeats 2000000 in
/-- 'end' at a whole value. -/
theorem end_any (s : ByteArray) (hs : s.size ≤ 1048576) : ∀ (f i j : Nat) (w : World), ValF (byteAt s) s.size f i j →
    Calls Try.prog 21 #[.string s, .int .i64 i] w fun e w' => e = .returned (.int .i64 j) ∧ w = w' := by
  intro f
  induction f with
  | zero => intro i j w h; exact h.elim
  | succ f ih =>
    intro i j w h
    have IH := show Hid _ from ih
    clear ih
    have hij := valF_lt _ _ _ _ _ h
    have hi : i < s.size := by omega
    have HB := show Hid _ from byteAt_lt s i hi
    rcases h with h | h | ⟨hop, ps, k, hvc, h101, hjk, hjn⟩
    · -- a string
      have st := strAt_any s i j w hs h
      have hd : 48 ≤ (s[i].toNat : Int) ∧ (s[i].toNat : Int) ≤ 57 := by
        obtain ⟨c, hic, hdig, _⟩ := h
        have := hdig i (Nat.le_refl _) hic
        rw [HB.out] at this
        exact this
      have b1 : ((s[i].toNat : Int) == 105) = false := by rw [beq_eq_false_iff_ne]; omega
      have b2 : ((s[i].toNat : Int) == 108) = false := by rw [beq_eq_false_iff_ne]; omega
      have b3 : ((s[i].toNat : Int) == 100) = false := by rw [beq_eq_false_iff_ne]; omega
      clear h hd
      go_enter Try.func21, Try.ntmps21
      go_wp2_with fail
      refine st.mono ?_
      rintro e w' ⟨t, rfl, rfl⟩
      go_wp2
      go_ret
      exact ⟨rfl, rfl⟩
    · -- an integer
      obtain ⟨h105, e, hie, hall, h101, hje, hjn⟩ := h
      have hx := indexByte_cut s i e hie (by omega) h101 (by rw [h105]; decide) hall
      have HX := show Hid _ from hx
      have b1 : ((s[i].toNat : Int) == 105) = true := by rw [HB.out] at h105; simpa using h105
      have HJ : Hid (j = e + 1) := hje
      clear h105 hall h101 hje hx
      go_enter Try.func21, Try.ntmps21
      go_wp2_with fail
      refine (indexByte_any _ _ _).mono ?_
      rintro e1 w' ⟨rfl, rfl⟩
      have e101 : (101 : Int).toNat.toUInt8 = 101 := rfl
      rw [e101, HX.out]
      clear e101
      obtain ⟨d, hd⟩ : ∃ d, e - i = d := ⟨_, rfl⟩
      have HD : Hid (e = i + d) := by show _ = _; omega
      have hds : i + d < s.size := by have := HJ.out; omega
      rw [hd]
      clear hd
      go_wp2
      go_ret
      exact ⟨ret_int (by have := HJ.out; have := HD.out; omega), rfl⟩
    · -- a list or a dictionary
      have hkk := vc_le _ _ _ _ _ _ hvc
      have HJ : Hid (j = k + 1) := hjk
      have hkn : k < s.size := by omega
      have H101 := show Hid _ from h101
      have HVC := show Hid _ from hvc
      have hop' : (s[i].toNat : Int) = 108 ∨ (s[i].toNat : Int) = 100 := by rw [HB.out] at hop; exact hop
      have b1 : ((s[i].toNat : Int) == 105) = false := by rw [beq_eq_false_iff_ne]; omega
      clear hop hvc h101 hjk
      have main : Calls Try.prog 21 #[.string s, .int .i64 i] w fun e w' => e = .returned (.int .i64 j) ∧ w = w' := by
        rcases hop' with hop' | hop'
        · have b2 : ((s[i].toNat : Int) == 108) = true := by simpa using hop'
          clear hop'
          go_enter Try.func21, Try.ntmps21
          go_wp2_with fail
          go_loop [1] (fun pv => ∃ (p : Nat) (ps : List Nat), pv = .int .i64 p ∧ p ≤ k ∧ Hid (VC (ValF (byteAt s) s.size f) ps p k)) (fun pv => k - (intOf pv).toNat)
          case atStart => exact ⟨i + 1, ps, by go_num, by omega, HVC⟩
          case round =>
            obtain ⟨p, qs, rfl, hpk, hvc⟩ := hrel
            cases qs with
            | nil =>
              have HPK : Hid (p = k) := hvc.out
              have hps : p < s.size := by omega
              have hbp : ((s[p].toNat : Int) != 101) = false := by
                have h1 := H101.out
                have h2 := byteAt_lt s p hps
                have h3 := HPK.out
                rw [← h3, h2] at h1
                simpa using h1
              go_wp2
              go_ret
              exact ⟨ret_int (by have := HJ.out; have := HPK.out; omega), rfl⟩
            | cons q qs =>
              have hv := hvc.out.1
              have hq := (valF_lt _ _ _ _ _ hv)
              have hqk := vc_le _ _ _ _ _ _ hvc.out.2
              have HQ : Hid (VC (ValF (byteAt s) s.size f) qs q k) := hvc.out.2
              have hps : p < s.size := by omega
              have hbp : ((s[p].toNat : Int) != 101) = true := by
                have h1 := valF_head _ _ _ _ _ hv
                rw [byteAt_lt s p hps] at h1
                simpa using h1
              have call := IH.out p q w hv
              clear hv hvc
              go_wp2_with fail
              refine call.mono ?_
              rintro e w' ⟨rfl, rfl⟩
              go_wp2
              go_round
              case rel => exact ⟨q, qs, rfl, hqk, HQ⟩
              case measure => simp [intOf]; omega
        · have b2 : ((s[i].toNat : Int) == 108) = false := by rw [beq_eq_false_iff_ne]; omega
          have b3 : ((s[i].toNat : Int) == 100) = true := by simpa using hop'
          clear hop'
          go_enter Try.func21, Try.ntmps21
          go_wp2_with fail
          go_loop [1] (fun pv => ∃ (p : Nat) (ps : List Nat), pv = .int .i64 p ∧ p ≤ k ∧ Hid (VC (ValF (byteAt s) s.size f) ps p k)) (fun pv => k - (intOf pv).toNat)
          case atStart => exact ⟨i + 1, ps, by go_num, by omega, HVC⟩
          case round =>
            obtain ⟨p, qs, rfl, hpk, hvc⟩ := hrel
            cases qs with
            | nil =>
              have HPK : Hid (p = k) := hvc.out
              have hps : p < s.size := by omega
              have hbp : ((s[p].toNat : Int) != 101) = false := by
                have h1 := H101.out
                have h2 := byteAt_lt s p hps
                have h3 := HPK.out
                rw [← h3, h2] at h1
                simpa using h1
              go_wp2
              go_ret
              exact ⟨ret_int (by have := HJ.out; have := HPK.out; omega), rfl⟩
            | cons q qs =>
              have hv := hvc.out.1
              have hq := (valF_lt _ _ _ _ _ hv)
              have hqk := vc_le _ _ _ _ _ _ hvc.out.2
              have HQ : Hid (VC (ValF (byteAt s) s.size f) qs q k) := hvc.out.2
              have hps : p < s.size := by omega
              have hbp : ((s[p].toNat : Int) != 101) = true := by
                have h1 := valF_head _ _ _ _ _ hv
                rw [byteAt_lt s p hps] at h1
                simpa using h1
              have call := IH.out p q w hv
              clear hv hvc
              go_wp2_with fail
              refine call.mono ?_
              rintro e w' ⟨rfl, rfl⟩
              go_wp2
              go_round
              case rel => exact ⟨q, qs, rfl, hqk, HQ⟩
              case measure => simp [intOf]; omega
      exact main

set_option maxHeartbeats 1000000 in
theorem zzEnd_any (s : ByteArray) (hs : s.size ≤ 1048576) (f i j : Nat) (w : World) (h : ValF (byteAt s) s.size f i j) :
    Calls Try.prog 10 #[.string s, .int .i64 i] w fun e w' => e = .returned (.int .i64 j) ∧ w = w' := by
  have q := end_any s hs f i j w h
  clear h
  go_enter Try.func10, Try.ntmps10
  go_wp2_with fail
  refine q.mono ?_
  rintro e w' ⟨rfl, rfl⟩
  go_wp2
  go_ret
  exact ⟨rfl, rfl⟩
end Go.Proofs.Qxb6601689a.Base
