import Derived.Test.Qxb6600588aQuote2
namespace Go.Proofs.Qxb6600588a.Base
open Go.RowKit
set_option linter.unusedVariables false
set_option linter.unusedSimpArgs false

theorem getD_getElem (ys : List Int) (j : Nat) (hj : j < ys.length) : ys.getD j 0 = ys[j] := by
  rw [List.getD_eq_getElem?_getD, List.getElem?_eq_getElem hj, Option.getD_some]

/-- 'out = append(out, ys...)', ys a slice that came in, nil or not. -/
theorem app_row {ops : Array Oper} {rest : List Oper} {o : Oper} {a : Act} {Q : Exit → Act → World → Prop} {w : World} (hgd : o.guard = none) (s x : Operand)
    (ho : o.op = .call { callee := .builtin .append, args := #[s, x], argTypes := #[22, 22] })
    (B : Nat) (ao : Option Addr) (n cap : Nat) (xs : List Int) (hs : a.eval s = .slice ao n cap) (hb : Buf w B ao n cap xs)
    (ad : Option Addr) (m c : Nat) (ys : List Int) (hx : a.eval x = .slice ad m c) (hr : Row w ad m ys) (hc : ad = none → c = 0)
    (hn : n + m ≤ 1099511627776) (hbase : B ≤ w.heap.size)
    (h : ∀ ao' cap' w', Buf w' B ao' (n + m) cap' (xs ++ ys) → Grew w w' (blk ao) (blk ao') → wpList Try.prog ops Q rest (a.put o.dst (.slice ao' (n + m) cap')) w') :
    wpList Try.prog ops Q (o :: rest) a w := by
  cases ad with
  | none =>
    have h0 := hr.zero rfl
    have hc0 := hc rfl
    subst h0
    subst hc0
    have hy : ys = [] := List.eq_nil_of_length_eq_zero hr.len
    subst hy
    refine app_none hgd s x ho B ao n cap xs hs hb hx ?_
    have := h ao cap w (by simpa using hb) (Grew.refl _ _)
    simpa using this
  | some ad =>
    refine app hgd s x ho B ao n cap xs hs hb ad m c ys hx hr.len (fun j hj => ?_) hr.wf hn hbase h
    have hl := hr.len
    rw [hr.cell ad rfl j (by omega), getD_getElem ys j hj]

set_option maxHeartbeats 1000000 in
theorem zzEnd_of (a : Option Addr) (n c : Nat) (i r : Int) (w : World) (h : Calls Try.prog 23 #[.slice a n c, .int .i64 i] w fun e w' => e = .returned (.int .i64 r) ∧ w' = w) :
    Calls Try.prog 10 #[.slice a n c, .int .i64 i] w fun e w' => e = .returned (.int .i64 r) ∧ w = w' := by
  go_enter Try.func10, Try.ntmps10
  go_wp2_with fail
  refine h.mono ?_
  rintro e w' ⟨rfl, rfl⟩
  go_wp2
  go_ret
  exact ⟨rfl, rfl⟩

set_option maxHeartbeats 1000000 in
theorem guard11 (a b : Option Addr) (n c m d : Nat) (s : ByteArray) (v : Int) (w : World) (hn : n + s.size + m ≤ 1048576) :
    Calls Try.prog 11 #[.slice a n c, .string s, .int .u8 v, .slice b m d] w fun e w' => e = .returned (.bool true) ∧ w = w' := by
  go_enter Try.func11, Try.ntmps11
  go_wp2
  go_ret
  exact ⟨rfl, rfl⟩

set_option maxHeartbeats 1000000 in
theorem guard11_any (a b : Option Addr) (n c m d : Nat) (s : ByteArray) (v : Int) (w : World) (h1 : n ≤ maxLen) (h2 : s.size ≤ maxLen) (h3 : m ≤ maxLen) :
    Calls Try.prog 11 #[.slice a n c, .string s, .int .u8 v, .slice b m d] w fun e w' => ∃ q, e = .returned (.bool q) ∧ w = w' := by
  unfold maxLen at h1 h2 h3
  by_cases g1 : 1048576 < n
  · go_enter Try.func11, Try.ntmps11
    go_wp2
    go_ret
    exact ⟨_, rfl, rfl⟩
  by_cases g2 : 1048576 < s.size
  · go_enter Try.func11, Try.ntmps11
    go_wp2
    go_ret
    exact ⟨_, rfl, rfl⟩
  by_cases g3 : 1048576 < n + s.size
  · go_enter Try.func11, Try.ntmps11
    go_wp2
    go_ret
    exact ⟨_, rfl, rfl⟩
  by_cases g4 : 1048576 < m
  · go_enter Try.func11, Try.ntmps11
    go_wp2
    go_ret
    exact ⟨_, rfl, rfl⟩
  by_cases g5 : 1048576 < n + s.size + m
  · go_enter Try.func11, Try.ntmps11
    go_wp2
    go_ret
    exact ⟨_, rfl, rfl⟩
  · go_enter Try.func11, Try.ntmps11
    go_wp2
    go_ret
    exact ⟨_, rfl, rfl⟩

set_option maxHeartbeats 1000000 in
/-- Past the bounds: true at once. -/
theorem closed_great (a b : Option Addr) (n c m d : Nat) (s : ByteArray) (v : Int) (w : World) (h1 : n ≤ maxLen) (h2 : s.size ≤ maxLen) (h3 : m ≤ maxLen) (h : 65536 < n ∨ 65536 < s.size ∨ 65536 < m) :
    Calls Try.prog 4 #[.slice a n c, .string s, .int .u8 v, .slice b m d] w fun e w' => e = .returned (.bool true) ∧ Below w.heap.size w w' := by
  have g := guard11_any a b n c m d s v w h1 h2 h3
  by_cases k1 : 65536 < n
  · go_enter Try.func4, Try.ntmps4
    go_wp2_with fail
    refine g.mono ?_
    rintro e w' ⟨q, rfl, rfl⟩
    cases q
    all_goals
      go_wp2
      go_ret
      exact ⟨rfl, Below.refl _ _⟩
  by_cases k2 : 65536 < s.size
  · go_enter Try.func4, Try.ntmps4
    go_wp2_with fail
    refine g.mono ?_
    rintro e w' ⟨q, rfl, rfl⟩
    cases q
    all_goals
      go_wp2
      go_ret
      exact ⟨rfl, Below.refl _ _⟩
  have k3 : 65536 < m := by omega
  go_enter Try.func4, Try.ntmps4
  go_wp2_with fail
  refine g.mono ?_
  rintro e w' ⟨q, rfl, rfl⟩
  cases q
  all_goals
    go_wp2
    go_ret
    exact ⟨rfl, Below.refl _ _⟩
end Go.Proofs.Qxb6600588a.Base
