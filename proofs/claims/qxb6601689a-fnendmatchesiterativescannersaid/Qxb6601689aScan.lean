import Derived.Test.Qxb6601689aRows
import Derived.Test.Qxb6601689aPlain
import Derived.WalkKit
import Derived.WalkLawsBesides
import Derived.WalkSpells
import Derived.Below
import Derived.OpenShut
import Derived.OwnWalk
import Derived.Outline
namespace Go.Proofs.Qxb6601689a.Base
open Go.RowKit
set_option linter.unusedVariables false
set_option linter.unusedSimpArgs false

/-- A string as a text. -/
def byteAt (s : ByteArray) (k : Nat) : Int := if h : k < s.size then (s[k].toNat : Int) else 0

theorem byteAt_lt (s : ByteArray) (k : Nat) (h : k < s.size) : byteAt s k = (s[k].toNat : Int) := by simp [byteAt, h]

/-- A decimal digit? -/
def dig (c : Int) : Bool := decide (48 ≤ c) && decide (c ≤ 57)

theorem dig_iff (c : Int) : dig c = true ↔ 48 ≤ c ∧ c ≤ 57 := by simp [dig]

theorem ret_bool {a b : Bool} (h : a = b) : Ending.returned (.bool a) = .returned (.bool b) := by rw [h]
theorem ret_int {k : IntKind} {a b : Int} (h : a = b) : Ending.returned (.int k a) = .returned (.int k b) := by rw [h]

set_option maxHeartbeats 1000000 in
theorem isDigit_any (c : Int) (w : World) :
    Calls Try.prog 19 #[.int .u8 c] w fun e w' => e = .returned (.bool (dig c)) ∧ w = w' := by
  by_cases h1 : 48 ≤ c
  · by_cases h2 : c ≤ 57
    · have hd : dig c = true := by simp [dig]; omega
      rw [hd]
      go_enter Try.func19, Try.ntmps19
      go_wp2
      go_ret
      exact ⟨rfl, rfl⟩
    · have hd : dig c = false := by simp [dig]; omega
      rw [hd]
      go_enter Try.func19, Try.ntmps19
      go_wp2
      go_ret
      exact ⟨rfl, rfl⟩
  · have hd : dig c = false := by simp [dig]; omega
    rw [hd]
    go_enter Try.func19, Try.ntmps19
    go_wp2
    go_ret
    exact ⟨rfl, rfl⟩

/-- What zzbScanString answers. -/
def SPost (s : ByteArray) (a : Nat) (w : World) (e : Ending) (w' : World) : Prop :=
  ∃ (t : ByteArray) (j : Int) (ok : Bool), e = .returned (.tuple #[.string t, .int .i64 j, .bool ok]) ∧ w = w' ∧ (ok = true → ∃ q : Nat, j = q ∧ StrLeaf (byteAt s) s.size a q)

theorem spost_no (s : ByteArray) (a : Nat) (w : World) (t : ByteArray) (j : Int) : SPost s a w (.returned (.tuple #[.string t, .int .i64 j, .bool false])) w := ⟨t, j, false, rfl, rfl, fun h => by cases h⟩

set_option maxRecDepth 100000 in
set_option maxHeartbeats 2000000 in
theorem scanString_any (s : ByteArray) (a : Nat) (w : World) (hs : s.size ≤ 1048576) (ha : a < s.size) :
    Calls Try.prog 20 #[.string s, .int .i64 a] w (SPost s a w) := by
  have da : decide ((a : Int) < 0) = false := by simp
  have db : decide (s.size ≤ a) = false := by simp; omega
  go_enter Try.func20, Try.ntmps20
  go_wp2_with fail
  go_loop [7] (fun t => ∃ k : Nat, t = .int .i64 k ∧ a ≤ k ∧ k ≤ s.size ∧ Hid (∀ m, a ≤ m → m < k → 48 ≤ byteAt s m ∧ byteAt s m ≤ 57)) (fun t => s.size - (intOf t).toNat)
  case atStart => exact ⟨a, rfl, Nat.le_refl _, by omega, fun m h1 h2 => by omega⟩
  case round =>
    obtain ⟨k, rfl, hak, hk, hall⟩ := hrel
    by_cases hlt : k < s.size
    · have hb := byteAt_lt s k hlt
      have HB := show Hid _ from hb
      clear hb
      cases hd : dig (s[k].toNat : Int)
      · -- the run of digits ends at k
        by_cases hka : k = a
        · subst hka
          go_wp2_with fail
          refine (isDigit_any _ _).mono ?_
          rintro e w' ⟨rfl, rfl⟩
          rw [hd]
          go_wp2
          go_ret3
          exact spost_no _ _ _ _ _
        have hka' : ((k : Int) == (a : Int)) = false := by simp; omega
        cases h58 : ((s[k].toNat : Int) != 58)
        · have dk : decide (s.size ≤ k) = false := by simp; omega
          have H58 : Hid (byteAt s k = 58) := by show _ = _; rw [HB.out]; simpa using h58
          go_wp2_with fail
          refine (isDigit_any _ _).mono ?_
          rintro e w' ⟨rfl, rfl⟩
          rw [hd]
          go_wp2_with fail
          go_loop [8, 9] (fun nv jv => ∃ j v : Nat, jv = .int .i64 j ∧ nv = .int .i64 v ∧ a ≤ j ∧ j ≤ k ∧ v ≤ s.size ∧ Hid (v = num (byteAt s) a (j - a))) (fun _ jv => k - (intOf jv).toNat)
          case atStart => exact ⟨a, 0, rfl, rfl, Nat.le_refl _, by omega, by omega, by show _ = _; rw [Nat.sub_self]; rfl⟩
          case round =>
            obtain ⟨j, v, rfl, rfl, haj, hjk, hv, hnum⟩ := hrel
            by_cases hjlt : j < k
            · have hjs : j < s.size := by omega
              have hdj := hall.out j haj hjlt
              rw [byteAt_lt s j hjs] at hdj
              have hstep : Hid (num (byteAt s) a (j + 1 - a) = v * 10 + ((s[j].toNat : Int) - 48).toNat) := by
                show _ = _
                rw [show j + 1 - a = (j - a) + 1 by omega]
                simp only [num]
                rw [← hnum.out, show a + (j - a) = j by omega, byteAt_lt s j hjs]
              obtain ⟨hd1, hd2⟩ := hdj
              by_cases hbig : (s.size : Int) < (v : Int) * 10 + ((s[j].toNat : Int) - 48)
              · go_wp2
                go_ret3
                exact spost_no _ _ _ _ _
              · go_wp2
                go_round
                case rel => exact ⟨j + 1, v * 10 + ((s[j].toNat : Int) - 48).toNat, by go_num, by first | rfl | (congr 1; omega), by omega, by omega, by omega, hstep.out.symm⟩
                case measure => simp [intOf]; omega
            · obtain rfl : j = k := by omega
              by_cases hfit : (s.size : Int) - ((j : Int) + 1) < (v : Int)
              · go_wp2
                go_ret3
                exact spost_no _ _ _ _ _
              · have hfit2 : (j : Int) + 1 + (v : Int) ≤ (s.size : Int) := by omega
                go_wp2
                go_ret3
                refine ⟨_, _, true, rfl, rfl, fun _ => ⟨j + 1 + v, by omega, j, by omega, hall.out, H58.out, by rw [← hnum.out], by omega⟩⟩
        · go_wp2_with fail
          refine (isDigit_any _ _).mono ?_
          rintro e w' ⟨rfl, rfl⟩
          rw [hd]
          go_wp2
          go_ret3
          exact spost_no _ _ _ _ _
      · have HD := show Hid _ from (dig_iff _).1 hd
        go_wp2_with fail
        refine (isDigit_any _ _).mono ?_
        rintro e w' ⟨rfl, rfl⟩
        rw [hd]
        go_wp2
        go_round
        case rel => exact ⟨k + 1, by go_num, by omega, by omega, fun m h1 h2 => by
          by_cases e : m = k
          · subst e; rw [HB.out]; exact HD.out
          · exact hall.out m h1 (by omega)⟩
        case measure => simp [intOf]; omega
    · by_cases hka : k = a
      · omega
      have hka' : ((k : Int) == (a : Int)) = false := by simp; omega
      go_wp2
      go_ret3
      exact spost_no _ _ _ _ _
end Go.Proofs.Qxb6601689a.Base
