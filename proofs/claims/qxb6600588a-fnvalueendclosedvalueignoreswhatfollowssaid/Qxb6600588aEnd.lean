import Derived.Test.Qxb6600588aRead
namespace Go.Proofs.Qxb6600588a.Base
open Go.RowKit
set_option linter.unusedVariables false
set_option linter.unusedSimpArgs false

set_option maxHeartbeats 1000000 in
/-- valueEnd at a string. -/
theorem valueEnd_str (a : Option Addr) (n c i : Nat) (xs body rest : List Int) (w : World) (hr : Row w a n xs) (hn : n ≤ 1099511627776)
    (h : xs.drop i = 34 :: body ++ 34 :: rest) (hb : okBody body = true) :
    Calls Try.prog 23 #[.slice a n c, .int .i64 i] w fun e w' => e = .returned (.int .i64 ((i + (body.length + 2) : Nat) : Int)) ∧ w' = w := by
  obtain ⟨hk, hx, hd⟩ := drop_cons h
  have q := stringEnd_any a n c i xs body rest w hr hn hd hb
  have hlen := hr.len
  obtain ⟨b, off, he, hbl, hcell⟩ := hr.at (by omega)
  subst he
  have hck := hcell i hk
  rw [hx] at hck
  have hkn : i < n := by omega
  clear hr hcell hx hd h
  go_enter Try.func23, Try.ntmps23
  go_wp2_with fail
  refine q.mono ?_
  rintro e w' ⟨rfl, rfl⟩
  go_wp2
  go_ret
  exact ⟨ret_int (by omega), rfl⟩

set_option maxHeartbeats 2000000 in
/-- valueEnd at a bracket. -/
theorem valueEnd_box (a : Option Addr) (n c i : Nat) (xs rest : List Int) (op cl : Int) (ts : List (List Int ⊕ Int)) (w : World) (hr : Row w a n xs) (hn : n ≤ 1099511627776)
    (h : xs.drop i = flat (.inr op :: ts) ++ cl :: rest) (hop : op = 123 ∨ op = 91) (hcl : cl = 125 ∨ cl = 93) (hrun : run 0 (.inr op :: ts) = some 1) :
    Calls Try.prog 23 #[.slice a n c, .int .i64 i] w fun e w' => e = .returned (.int .i64 ((i + ((flat (.inr op :: ts)).length + 1) : Nat) : Int)) ∧ w' = w := by
  have hlen := hr.len
  have hl2 : xs.length = i + ((flat (.inr op :: ts)).length + (rest.length + 1)) := by
    have := congrArg List.length h
    rw [List.length_drop] at this
    simp only [List.length_append, List.length_cons, flat] at this ⊢
    omega
  have hin : i < n := by omega
  have hstr := fun (k : Nat) (body rest : List Int) (hk : xs.drop (k + 1) = body ++ 34 :: rest) (hb : okBody body = true) => stringEnd_any a n c k xs body rest w hr hn hk hb
  have HS : Hid (∀ (k : Nat) (body rest : List Int) (hk : xs.drop (k + 1) = body ++ 34 :: rest) (hb : okBody body = true), Calls Try.prog 28 #[.slice a n c, .int .i64 k] w fun e w' => e = .returned (.int .i64 ((k + 1 + body.length + 1 : Nat) : Int)) ∧ w' = w) := hstr
  clear hstr
  obtain ⟨b, off, he, hbl, hcell⟩ := hr.at (by omega)
  subst he
  clear hr
  have HC : Hid (∀ j, (hj : j < xs.length) → w.cell? ⟨b, off + j, none⟩ = some (.int .u8 xs[j])) := hcell
  clear hcell
  have hck : w.cell? ⟨b, off + i, none⟩ = some (.int .u8 op) := by
    obtain ⟨hk, hx, _⟩ := drop_cons (show xs.drop i = op :: (flat ts ++ cl :: rest) from h)
    rw [HC.out i hk, hx]
  have HH : Hid (xs.drop i = flat (.inr op :: ts) ++ cl :: rest) := h
  have HR : Hid (run 0 (.inr op :: ts) = some 1) := hrun
  clear h hrun
  generalize (.inr op :: ts : List (List Int ⊕ Int)) = us at *
  generalize hE : i + (flat us).length = E at *
  have HE : Hid (i + (flat us).length = E) := hE
  have hEn : E < n := by omega
  have fin : ((i + ((flat us).length + 1) : Nat) : Int) = (E : Int) + 1 := by omega
  rw [fin]
  clear hE fin hl2
  have run1 : Calls Try.prog 23 #[.slice (some ⟨b, off, none⟩) n c, .int .i64 i] w fun e w' => e = .returned (.int .i64 ((E : Int) + 1)) ∧ w' = w := by
    rcases hop with rfl | rfl
    all_goals
      go_enter Try.func23, Try.ntmps23
      go_wp2_with fail
      go_loop [1, 5] (fun t d => ∃ (k e : Nat) (ts : List (List Int ⊕ Int)), t = .int .i64 k ∧ d = .int .i64 e ∧ e ≤ k ∧ Hid (xs.drop k = flat ts ++ cl :: rest) ∧ Hid (run e ts = some 1) ∧ Hid (k + (flat ts).length = E)) (fun t _ => E + 1 - (intOf t).toNat)
      case atStart => exact ⟨i, 0, us, rfl, rfl, Nat.zero_le _, HH, HR, HE⟩
      case round =>
        obtain ⟨k, e, ts, rfl, rfl, hek, hd, hrn, hkE⟩ := hrel
        have hkl : k ≤ E := by have := hkE.out; omega
        cases ts with
        | nil =>
          have hc1 : w.cell? ⟨b, off + k, none⟩ = some (.int .u8 cl) := by
            obtain ⟨hk, hx, _⟩ := drop_cons (show xs.drop k = cl :: rest from hd.out)
            rw [HC.out k hk, hx]
          have he : e = 1 := by have := hrn.out; simp [run] at this; exact this
          subst he
          have HE2 : Hid (k = E) := hkE.out
          clear hd hrn hkE HH HR HE
          rcases hcl with rfl | rfl
          all_goals
            go_wp2
            go_ret
            exact ⟨ret_int (by have := HE2.out; omega), rfl⟩
        | cons t ts =>
          cases t with
          | inl q =>
            obtain ⟨hq, hr2⟩ := run_inl _ _ _ _ hrn.out
            obtain ⟨hk, hx, hd2⟩ := drop_cons (show xs.drop k = 34 :: (q ++ 34 :: flat ts ++ cl :: rest) from hd.out)
            have hc1 : w.cell? ⟨b, off + k, none⟩ = some (.int .u8 34) := by rw [HC.out k hk, hx]
            have hd3 : xs.drop (k + 1) = q ++ 34 :: (flat ts ++ cl :: rest) := by rw [hd2]; simp
            have call := HS.out k q _ hd3 hq
            have hlen3 : Hid (k + 1 + q.length + 1 + (flat ts).length = E) := by have := hkE.out; simp [flat] at this; show _ = _; omega
            have hle : k + 1 + q.length + 1 ≤ E := by have := hlen3.out; omega
            have hd4 : Hid (xs.drop (k + 1 + q.length + 1) = flat ts ++ cl :: rest) := by
              show _ = _
              rw [← List.drop_drop, ← List.drop_drop, hd3, List.drop_left]; rfl
            have HR2 : Hid (run e ts = some 1) := hr2
            clear hd hrn hkE HH HR HE hx hk hd2 hd3 hr2 hq
            generalize hK : k + 1 + q.length + 1 = K at *
            have HK : Hid (k + 1 + q.length + 1 = K) := hK
            have hKk : k < K := by omega
            clear hK
            go_wp2_with fail
            refine call.mono ?_
            rintro e1 w' ⟨rfl, rfl⟩
            clear call
            go_wp2
            go_round
            case rel => exact ⟨K, e, ts, by go_num, rfl, by omega, hd4, HR2, hlen3⟩
            case measure => simp [intOf]; omega
          | inr x =>
            obtain ⟨hx34, hr2⟩ := run_inr _ _ _ _ hrn.out
            obtain ⟨hk, hx, hd2⟩ := drop_cons (show xs.drop k = x :: (flat ts ++ cl :: rest) from hd.out)
            have hc1 : w.cell? ⟨b, off + k, none⟩ = some (.int .u8 x) := by rw [HC.out k hk, hx]
            have hlen3 : Hid (k + 1 + (flat ts).length = E) := by have := hkE.out; simp [flat] at this; show _ = _; omega
            have hle : k + 1 ≤ E := by have := hlen3.out; omega
            have hd4 : Hid (xs.drop (k + 1) = flat ts ++ cl :: rest) := hd2
            have hb34 : (x == 34) = false := by simpa using hx34
            clear hd hrn hkE HH HR HE hx hk hd2
            rcases hr2 with ⟨hx, hr2⟩ | ⟨hx, h2, hr2⟩ | ⟨h1, h2, h3, h4, hr2⟩
            · have HR2 : Hid (run (e + 1) ts = some 1) := hr2
              clear hr2
              rcases hx with rfl | rfl
              all_goals
                go_wp2
                go_round
                case rel => exact ⟨k + 1, e + 1, ts, by go_num, by go_num, by omega, hd4, HR2, hlen3⟩
                case measure => simp [intOf]; omega
            · obtain ⟨f, rfl⟩ : ∃ f, e = f + 2 := ⟨e - 2, by omega⟩
              have HR2 : Hid (run (f + 1) ts = some 1) := hr2
              clear hr2
              rcases hx with rfl | rfl
              all_goals
                go_wp2
                go_round
                case rel => exact ⟨k + 1, f + 1, ts, by go_num, by go_num, by omega, hd4, HR2, hlen3⟩
                case measure => simp [intOf]; omega
            · have HR2 : Hid (run e ts = some 1) := hr2
              clear hr2
              have b1 : (x == 123) = false := by simpa using h1
              have b2 : (x == 91) = false := by simpa using h2
              have b3 : (x == 125) = false := by simpa using h3
              have b4 : (x == 93) = false := by simpa using h4
              go_wp2
              go_round
              case rel => exact ⟨k + 1, e, ts, by go_num, rfl, by omega, hd4, HR2, hlen3⟩
              case measure => simp [intOf]; omega
  exact run1
end Go.Proofs.Qxb6600588a.Base
