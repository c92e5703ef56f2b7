import Derived.Test.Qxb6600588aEnd
import Derived.Lib.Bytealg
import Derived.Laws.Externs
import Derived.Lib.Walk
namespace Go.Proofs.Qxb6600588a.Base
open Go.RowKit
set_option linter.unusedVariables false
set_option linter.unusedSimpArgs false

/-- A byte that may follow a number, true, false or null. -/
def dl (x : Int) : Bool := x == 44 || x == 125 || x == 93 || x == 32 || x == 9 || x == 13 || x == 10

/-- A byte of a number, of true, false, null. -/
def plain (x : Int) : Bool := !(dl x) && x != 34 && x != 123 && x != 91

/-- What follows ends the value: nothing, or a delimiter first. -/
def Dl (rest : List Int) : Prop := rest = [] ∨ ∃ y t, rest = y :: t ∧ dl y = true

theorem delims_n : ∀ n : Nat, n < 256 → (Lib.indexByte [44, 125, 93, 32, 9, 13, 10] n.toUInt8 < 0) = (dl (n : Int) = false) := by
  have h : ∀ n : Nat, n < 256 → decide (Lib.indexByte [44, 125, 93, 32, 9, 13, 10] n.toUInt8 < 0) = !(dl (n : Int)) := by decide +kernel
  intro n hn
  have := h n hn
  rw [eq_iff_iff]
  cases hd : dl (n : Int) <;> rw [hd] at this <;> simpa using this

theorem delims (x : Int) (h0 : 0 ≤ x) (h1 : x < 256) : (Lib.indexByte [44, 125, 93, 32, 9, 13, 10] x.toNat.toUInt8 < 0) = (dl x = false) := by
  obtain ⟨n, rfl⟩ := Int.eq_ofNat_of_zero_le h0
  exact delims_n n (by omega)

set_option maxHeartbeats 1000000 in
/-- strings.IndexByte. -/
theorem indexByte_any (s : ByteArray) (c : Int) (w : World) :
    Calls Try.prog 29 #[.string s, .int .u8 c] w fun e w' => e = .returned (.int .i64 (Lib.indexByte s.data.toList c.toNat.toUInt8)) ∧ w = w' := by
  go_enter Try.func29, Try.ntmps29
  go_wp2
  rw [run_callFunc_extern Try.func31 (by kernel_rfl) (by kernel_rfl) (by kernel_rfl) (e := Extern.BytealgIndexByte.indexByte) (by kernel_rfl), Lib.run_indexByteString]
  simp only [Result.andThen]
  rw [Oper.upon_value]
  go_wp2
  go_ret
  exact ⟨rfl, rfl⟩

set_option maxHeartbeats 2000000 in
/-- valueEnd at a number, true, false, null. -/
theorem valueEnd_scalar (a : Option Addr) (n c i : Nat) (xs body rest : List Int) (w : World) (hr : Row w a n xs) (hn : n ≤ 1099511627776)
    (h : xs.drop i = body ++ rest) (hne : body ≠ []) (hb : ∀ x ∈ body, plain x = true) (hrest : Dl rest) :
    Calls Try.prog 23 #[.slice a n c, .int .i64 i] w fun e w' => e = .returned (.int .i64 ((i + body.length : Nat) : Int)) ∧ w' = w := by
  have hlen := hr.len
  have hwf := hr.wf
  have hl2 : i + body.length + rest.length = n := by
    have := congrArg List.length h
    rw [List.length_drop] at this
    simp only [List.length_append] at this
    have : body.length ≠ 0 := fun e => hne (List.eq_nil_of_length_eq_zero e)
    omega
  have hpos : 0 < body.length := Nat.pos_of_ne_zero fun e => hne (List.eq_nil_of_length_eq_zero e)
  obtain ⟨b, off, he, hbl, hcell⟩ := hr.at (by omega)
  subst he
  clear hr
  have HC : Hid (∀ j, (hj : j < xs.length) → w.cell? ⟨b, off + j, none⟩ = some (.int .u8 xs[j]) ∧ 0 ≤ xs[j] ∧ xs[j] < 256) := fun j hj => ⟨hcell j hj, hwf _ (List.getElem_mem hj)⟩
  clear hcell hwf
  have HH : Hid (xs.drop i = body ++ rest) := h
  have HB : Hid (∀ x ∈ body, plain x = true) := hb
  have HR : Hid (Dl rest) := hrest
  clear h hb hrest
  obtain ⟨x0, hx0, hp0⟩ : ∃ x, w.cell? ⟨b, off + i, none⟩ = some (.int .u8 x) ∧ plain x = true := by
    cases hbd : body with
    | nil => exact absurd hbd hne
    | cons x l =>
      have hd := HH.out
      rw [hbd] at hd
      obtain ⟨hk, hx, _⟩ := drop_cons (show xs.drop i = x :: (l ++ rest) from hd)
      exact ⟨x, by rw [(HC.out i hk).1, hx], HB.out x (by rw [hbd]; simp)⟩
  have p1 : (x0 == 34) = false := by simp [plain] at hp0; simpa using hp0.1.1.2
  have p2 : (x0 == 123) = false := by simp [plain] at hp0; simpa using hp0.1.2
  have p3 : (x0 == 91) = false := by simp [plain] at hp0; simpa using hp0.2
  clear hp0 hne
  generalize hE : i + body.length = E at *
  have HE : Hid (i + body.length = E) := hE
  have hEn : E ≤ n := by omega
  have hiE : i < E := by omega
  clear hE
  have HL2 : Hid (E + rest.length = n) := hl2
  clear hl2
  go_enter Try.func23, Try.ntmps23
  go_wp2_with fail
  go_loop [1] (fun t => ∃ (k : Nat) (b2 : List Int), t = .int .i64 k ∧ Hid (xs.drop k = b2 ++ rest) ∧ Hid (∀ x ∈ b2, plain x = true) ∧ Hid (k + b2.length = E)) (fun t => E - (intOf t).toNat)
  case atStart => exact ⟨i, body, rfl, HH, HB, HE⟩
  case round =>
    obtain ⟨k, b2, rfl, hd, hpl, hk⟩ := hrel
    have hkE : k ≤ E := by have := hk.out; omega
    cases b2 with
    | nil =>
      have HkE : Hid (k = E) := hk.out
      by_cases hlt : k < n
      · obtain ⟨y, hy, hdl, hy0, hy1⟩ : ∃ y, w.cell? ⟨b, off + k, none⟩ = some (.int .u8 y) ∧ dl y = true ∧ 0 ≤ y ∧ y < 256 := by
          rcases HR.out with h0 | ⟨y, t, h1, h2⟩
          · exfalso; have e1 := HL2.out; have e2 := HkE.out; rw [h0, List.length_nil] at e1; omega
          · have hd' := hd.out
            rw [h1] at hd'
            obtain ⟨hkx, hx, _⟩ := drop_cons (show xs.drop k = y :: t from hd')
            have := HC.out k hkx
            rw [hx] at this
            exact ⟨y, this.1, h2, this.2⟩
        have hneg : ¬ Lib.indexByte [44, 125, 93, 32, 9, 13, 10] y.toNat.toUInt8 < 0 := by rw [delims y hy0 hy1, hdl]; simp
        go_wp2_with fail
        refine (indexByte_any _ _ _).mono ?_
        rintro e w' ⟨rfl, rfl⟩
        generalize Lib.indexByte [44, 125, 93, 32, 9, 13, 10] y.toNat.toUInt8 = q at *
        go_wp2
        go_ret
        exact ⟨ret_int (by have := HkE.out; omega), rfl⟩
      · go_wp2
        go_ret
        exact ⟨ret_int (by have := HkE.out; omega), rfl⟩
    | cons x l =>
      obtain ⟨hkx, hx, hd'⟩ := drop_cons (show xs.drop k = x :: (l ++ rest) from hd.out)
      have hc := HC.out k hkx
      rw [hx] at hc
      obtain ⟨hc1, hx0', hx1'⟩ := hc
      have hp : plain x = true := hpl.out x (by simp)
      have hdl : dl x = false := by simp [plain] at hp; exact hp.1.1.1
      have hneg : Lib.indexByte [44, 125, 93, 32, 9, 13, 10] x.toNat.toUInt8 < 0 := by rw [delims x hx0' hx1', hdl]
      have hks : Hid (k + 1 + l.length = E) := by have := hk.out; simp at this; show _ = _; omega
      have hkl : k < E := by have := hks.out; omega
      have HD : Hid (xs.drop (k + 1) = l ++ rest) := hd'
      have HP : Hid (∀ x ∈ l, plain x = true) := fun y hy => hpl.out y (by simp [hy])
      have hkn : k < n := by omega
      clear hx hd' hp hdl hd hpl hk hkx
      go_wp2_with fail
      refine (indexByte_any _ _ _).mono ?_
      rintro e w' ⟨rfl, rfl⟩
      generalize Lib.indexByte [44, 125, 93, 32, 9, 13, 10] x.toNat.toUInt8 = q at *
      go_wp2
      go_round
      case rel => exact ⟨k + 1, l, by go_num, HD, HP, hks⟩
      case measure => simp [intOf]; omega

/-- In the text T the value that begins at s ends at e. -/
def Good (T : List Int) (s e : Int) : Prop :=
  ∃ i : Nat, s = i ∧ ((∃ body rest, T.drop i = 34 :: body ++ 34 :: rest ∧ okBody body = true ∧ e = ((i + (body.length + 2) : Nat) : Int)) ∨
    (∃ (op cl : Int) (ts : List (List Int ⊕ Int)) (rest : List Int), T.drop i = flat (.inr op :: ts) ++ cl :: rest ∧ (op = 123 ∨ op = 91) ∧ (cl = 125 ∨ cl = 93) ∧ run 0 (.inr op :: ts) = some 1 ∧ e = ((i + ((flat (.inr op :: ts)).length + 1) : Nat) : Int)) ∨
    (∃ body rest, T.drop i = body ++ rest ∧ body ≠ [] ∧ (∀ x ∈ body, plain x = true) ∧ Dl rest ∧ e = ((i + body.length : Nat) : Int)))

/-- .. and valueEnd says so. -/
theorem Good.calls {T : List Int} {s e : Int} (h : Good T s e) (a : Option Addr) (n c : Nat) (w : World) (hr : Row w a n T) (hn : n ≤ 1099511627776) :
    Calls Try.prog 23 #[.slice a n c, .int .i64 s] w fun e' w' => e' = .returned (.int .i64 e) ∧ w' = w := by
  obtain ⟨i, rfl, h⟩ := h
  rcases h with ⟨body, rest, h1, h2, rfl⟩ | ⟨op, cl, ts, rest, h1, h2, h3, h4, rfl⟩ | ⟨body, rest, h1, h2, h3, h4, rfl⟩
  · exact valueEnd_str a n c i T body rest w hr hn h1 h2
  · exact valueEnd_box a n c i T rest op cl ts w hr hn h1 h2 h3 h4
  · exact valueEnd_scalar a n c i T body rest w hr hn h1 h2 h3 h4
end Go.Proofs.Qxb6600588a.Base
