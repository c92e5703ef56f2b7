import Derived.Test.Qxb6601856aCut
namespace Go.Proofs.Qxb6601856a.Base
open Go.RowKit
set_option linter.unusedVariables false
set_option linter.unusedSimpArgs false

/-- The version as it is printed. -/
def ver (p q : Int) : List Int := [72, 84, 84, 80, 47, 48 + p, 46, 48 + q]

theorem no_space_tch (ms : List Int) (h : ∀ x ∈ ms, Tch x) : (32 : Int) ∉ ms := fun k => by have := (h _ k).1.1; omega
theorem no_space_vis (ms : List Int) (h : ∀ x ∈ ms, Vis x) : (32 : Int) ∉ ms := fun k => by have := (h _ k).1; omega

theorem results_tmp5 {fn : Func} {t1 t2 t3 t4 t5 : Tmp} (h : fn.results = #[.tmp t1, .tmp t2, .tmp t3, .tmp t4, .tmp t5]) (tmps : Array Value) (P : Program) (w : World) :
    (results fn tmps).run P w = .ok (.tuple #[tmps.getD t1 undef, tmps.getD t2 undef, tmps.getD t3 undef, tmps.getD t4 undef, tmps.getD t5 undef]) w := by
  simp [results, h]

set_option maxRecDepth 100000 in
set_option maxHeartbeats 8000000 in
/-- parseRequestLine at a line that was built. -/
theorem parse_any (b off n c : Nat) (ms ts : List Int) (p q : Int) (w : World) (hr : Row w (some ⟨b, off, none⟩) n (ms ++ 32 :: (ts ++ 32 :: ver p q))) (hn : n ≤ 1048586) (hnc : n ≤ c) (hcm : c ≤ maxLen)
    (hm : ∀ x ∈ ms, Tch x) (ht : ∀ x ∈ ts, Vis x) (hm0 : 0 < ms.length) (ht0 : 0 < ts.length) (p0 : 0 ≤ p) (p1 : p ≤ 9) (q0 : 0 ≤ q) (q1 : q ≤ 9) :
    Calls Try.prog 20 #[.slice (some ⟨b, off, none⟩) n c] w fun e w' => e = .returned (.tuple #[.slice (some ⟨b, off, none⟩) ms.length c, .slice (some ⟨b, off + (ms.length + 1), none⟩) ts.length (c - (ms.length + 1)), .int .i64 p, .int .i64 q, .bool true]) ∧ Below w.heap.size w w' := by
  have kc := fun (w : World) (C : Array Value) (n c : Nat) => Lib.run_convert_bytes_const (P := Try.prog) w 22 5 C n c Try.underlying22 Try.underlying5
  have hl := hr.len
  simp only [List.length_append, List.length_cons] at hl
  have lv : (ver p q).length = 8 := rfl
  rw [lv] at hl
  have cut1 := cut_below b off n c w.heap.size 1 ms (ts ++ 32 :: ver p q) (w.alloc (.cells #[.int .u8 32] 5 (1, 2))) (hr.below ((Below.refl _ _).alloc (Nat.le_refl _) _)) (by omega) hnc hcm (no_space_tch ms hm) (by simp; omega) (by rw [World.cell?_alloc_mark]; rfl)
  go_enter Try.func20, Try.ntmps20
  go_wp2_with fail
  refine cut1.mono ?_
  rintro e w1 ⟨rfl, hb1⟩
  clear cut1
  have s1 := hb1.size
  rw [World.size_alloc] at s1
  have B1 : Below w.heap.size w w1 := ((Below.refl _ _).alloc (Nat.le_refl _) _).trans (hb1.mono (by rw [World.size_alloc]; omega))
  clear hb1
  have hr1 := hr.below B1
  have hr1m := hr1.front
  have hr1' : Row w1 (some ⟨b, off + (ms.length + 1), none⟩) (ts ++ 32 :: ver p q).length (ts ++ 32 :: ver p q) := by
    have := Row.drop (xs := ms ++ [32]) (ys := ts ++ 32 :: ver p q) (by simpa using hr1)
    simpa using this
  clear hr hr1
  have l2 : (ts ++ 32 :: ver p q).length = n - (ms.length + 1) := by simp [lv]; omega
  rw [l2] at hr1' ⊢
  have cut2 := cut_below b (off + (ms.length + 1)) (n - (ms.length + 1)) (c - (ms.length + 1)) w1.heap.size 1 ts (ver p q) (w1.alloc (.cells #[.int .u8 32] 5 (1, 2))) (hr1'.below ((Below.refl _ _).alloc (Nat.le_refl _) _)) (by omega) (by omega) (by omega) (no_space_vis ts ht) (by simp [lv]) (by rw [World.cell?_alloc_mark]; rfl)
  rw [lv] at cut2
  go_wp2_with fail
  refine cut2.mono ?_
  rintro e w2 ⟨rfl, hb2⟩
  clear cut2 l2
  have s2 := hb2.size
  rw [World.size_alloc] at s2
  have B2' : Below w1.heap.size w1 w2 := ((Below.refl _ _).alloc (Nat.le_refl _) _).trans (hb2.mono (by rw [World.size_alloc]; omega))
  have B2 : Below w.heap.size w w2 := B1.trans (B2'.mono (by omega))
  clear hb2 B1
  have hr2m := hr1m.below B2'
  have hr2 := hr1'.below B2'
  have hr2t := hr2.front
  have hr2v : Row w2 (some ⟨b, off + (ms.length + 1) + (ts.length + 1), none⟩) 8 (ver p q) := by
    have := Row.drop (xs := ts ++ [32]) (ys := ver p q) (by simpa using hr2)
    simpa [lv] using this
  clear hr1m hr1' hr2 B2'
  have tok := token_any _ _ c ms w2 hr2m (by omega) hm0 hm
  have tar := target_any _ _ (c - (ms.length + 1)) ts w2 hr2t (by omega) ht0 ht
  clear hr2m hr2t hm ht
  generalize hov : off + (ms.length + 1) + (ts.length + 1) = ov at hr2v ⊢
  have c0 := hr2v.cell _ rfl
  simp only [Go.WideShapes.add_plain] at c0
  have v5 := c0 5 (by omega)
  have v6 := c0 6 (by omega)
  have v7 := c0 7 (by omega)
  have HB : Lib.Bytes w2 b ov ⟨#[72, 84, 84, 80, 47]⟩ := by
    intro i hi
    have hi5 : i < 5 := hi
    rw [c0 i (by omega)]
    match i, hi5 with
    | 0, _ => rfl
    | 1, _ => rfl
    | 2, _ => rfl
    | 3, _ => rfl
    | 4, _ => rfl
  have conv := fun cap => Lib.run_convert_whole (P := Try.prog) w2 22 5 9 Try.underlying22 Try.underlying5 Try.underlying9 b ov ⟨#[72, 84, 84, 80, 47]⟩ HB cap
  have conv' : ∀ cap, (convert 22 9 (.slice (some ⟨b, ov, none⟩) 5 cap)).run Try.prog w2 = .ok (.string ⟨#[72, 84, 84, 80, 47]⟩) w2 := conv
  clear conv HB c0 hr2v
  simp only [ver, List.getD_cons_succ, List.getD_cons_zero] at v5 v6 v7
  have dig1 := digit_yes (48 + p) w2 (by omega) (by omega)
  have dig2 := digit_yes (48 + q) w2 (by omega) (by omega)
  unfold maxLen at hcm
  generalize hmm : ms.length = m at *
  generalize htt : ts.length = t at *
  have HM : Hid (ms.length = m) := hmm
  have HT : Hid (ts.length = t) := htt
  clear hmm htt kc
  go_wp2_with fail
  refine tok.mono ?_
  rintro e w3 ⟨rfl, rfl⟩
  go_wp2_with fail
  refine tar.mono ?_
  rintro e w3 ⟨rfl, rfl⟩
  clear tok tar
  go_wp2_with fail
  refine dig1.mono ?_
  rintro e w3 ⟨rfl, rfl⟩
  go_wp2_with fail
  refine dig2.mono ?_
  rintro e w3 ⟨rfl, rfl⟩
  clear dig1 dig2
  go_wp2_with fail
  go_quiet (fail)
  go_wp2
  refine bodyPost_ret (results_tmp5 rfl _ _ _) rfl ?_
  refine ⟨?_, below_drewN B2 _⟩
  rw [HM.out, HT.out]
  have e1 : 48 + p - 48 = p := by omega
  have e2 : 48 + q - 48 = q := by omega
  rw [e1, e2]
  rfl

set_option maxHeartbeats 1000000 in
theorem zzParse_any (b off n c : Nat) (ms ts : List Int) (p q : Int) (w : World) (hr : Row w (some ⟨b, off, none⟩) n (ms ++ 32 :: (ts ++ 32 :: ver p q))) (hn : n ≤ 1048586) (hnc : n ≤ c) (hcm : c ≤ maxLen)
    (hm : ∀ x ∈ ms, Tch x) (ht : ∀ x ∈ ts, Vis x) (hm0 : 0 < ms.length) (ht0 : 0 < ts.length) (p0 : 0 ≤ p) (p1 : p ≤ 9) (q0 : 0 ≤ q) (q1 : q ≤ 9) :
    Calls Try.prog 10 #[.slice (some ⟨b, off, none⟩) n c] w fun e w' => e = .returned (.tuple #[.slice (some ⟨b, off, none⟩) ms.length c, .slice (some ⟨b, off + (ms.length + 1), none⟩) ts.length (c - (ms.length + 1)), .int .i64 p, .int .i64 q, .bool true]) ∧ Below w.heap.size w w' := by
  have h := parse_any b off n c ms ts p q w hr hn hnc hcm hm ht hm0 ht0 p0 p1 q0 q1
  clear hr hm ht
  go_enter Try.func10, Try.ntmps10
  go_wp2_with fail
  refine h.mono ?_
  rintro e w1 ⟨rfl, hb1⟩
  go_wp2
  refine bodyPost_ret (results_tmp5 rfl _ _ _) rfl ?_
  exact ⟨rfl, hb1⟩
end Go.Proofs.Qxb6601856a.Base
