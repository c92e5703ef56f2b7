import Derived.Test.Qxb6600588aClosed
namespace Go.Proofs.Qxb6600588a.Base
open Go.RowKit
set_option linter.unusedVariables false
set_option linter.unusedSimpArgs false

set_option maxRecDepth 100000 in
set_option maxHeartbeats 2000000 in
theorem closed0 (a b : Option Addr) (n c m d : Nat) (s : ByteArray) (v : Int) (xs ys : List Int) (w : World) (hx : Row w a n xs) (hy : Row w b m ys) (hca : a = none → c = 0) (hcb : b = none → d = 0)
    (h1 : n ≤ 65536) (h2 : s.size ≤ 65536) (h3 : m ≤ 65536) (v0 : 0 ≤ v) (v1 : v ≤ 255) (hv : v % 3 = 0) :
    Calls Try.prog 4 #[.slice a n c, .string s, .int .u8 v, .slice b m d] w fun e w' => e = .returned (.bool true) ∧ Below w.heap.size w w' := by
  have g := guard11 a b n c m d s v w (by omega)
  have hlx := hx.len
  have HLX : Hid (xs.length = n) := hlx
  clear hlx
  go_enter Try.func4, Try.ntmps4
  go_wp2_with fail
  refine g.mono ?_
  rintro e w0 ⟨rfl, rfl⟩
  clear g
  go_wp2_with (at_builtin; refine app_row rfl (.tmp 34) (.tmp 35) rfl w.heap.size _ _ _ [] rfl (Buf.nil _ _) a n c xs rfl hx hca (by omega) (Nat.le_refl _) ?_)
  intro ao1 cap1 w1 hb1 hg1
  have s1 := hg1.size
  have hgr1 : Grew w w1 none (blk ao1) := hg1
  clear hg1 hx
  have bv : (v % 3 == 0) = true := by simpa using hv
  clear hv
  go_wp2_with fail
  refine (quote_any w.heap.size ao1 _ cap1 _ s _ w1 hb1 (by omega) (by omega)).mono ?_
  rintro e w2 ⟨ao2, n2, cap2, bd, rfl, okbd, lebd, hn2, hb2, hg2⟩
  have s2 := hg2.size
  have hgr2 : Grew w w2 none (blk ao2) := hgr1.trans hg2
  have HN2 := show Hid _ from hn2
  clear hn2 hg2 hb1
  have hle2 : n2 ≤ n + (6 * s.size + 2) := by have := HN2.out; omega
  have fin : Hid (((n2 : Nat) : Int) = ((n + (bd.length + 2) : Nat) : Int)) := by have := HN2.out; show _ = _; omega
  have hy2 := hy.below (hgr2.below (B := w.heap.size) (Nat.le_refl _) (fun k hk => by cases hk))
  go_wp2_with (at_builtin; refine app_row rfl (.tmp 79) (.tmp 80) rfl w.heap.size _ _ _ _ rfl hb2 b m d ys rfl hy2 hcb (by omega) (by omega) ?_)
  intro ao3 cap3 w3 hb3 hg3
  have hgr3 : Grew w w3 none (blk ao3) := hgr2.trans hg3
  have law := zzEnd_of _ _ cap3 _ ((n + (bd.length + 2) : Nat) : Int) w3 (valueEnd_str ao3 _ cap3 n (xs ++ 34 :: (bd ++ [34]) ++ ys) bd ys w3 (by simpa using hb3.row) (by omega) (by have := HLX.out; subst this; simp) okbd)
  clear hg3 hy2
  rw [← fin.out] at law
  go_wp2_with fail
  refine law.mono ?_
  rintro e w9 ⟨rfl, rfl⟩
  go_wp2
  go_ret
  exact ⟨by simp, hgr3.below (Nat.le_refl _) (fun k hk => by cases hk)⟩

set_option maxRecDepth 100000 in
set_option maxHeartbeats 2000000 in
theorem closed1 (a b : Option Addr) (n c m d : Nat) (s : ByteArray) (v : Int) (xs ys : List Int) (w : World) (hx : Row w a n xs) (hy : Row w b m ys) (hca : a = none → c = 0) (hcb : b = none → d = 0)
    (h1 : n ≤ 65536) (h2 : s.size ≤ 65536) (h3 : m ≤ 65536) (v0 : 0 ≤ v) (v1 : v ≤ 255) (hv : v % 3 = 1) :
    Calls Try.prog 4 #[.slice a n c, .string s, .int .u8 v, .slice b m d] w fun e w' => e = .returned (.bool true) ∧ Below w.heap.size w w' := by
  have g := guard11 a b n c m d s v w (by omega)
  have hlx := hx.len
  have HLX : Hid (xs.length = n) := hlx
  clear hlx
  go_enter Try.func4, Try.ntmps4
  go_wp2_with fail
  refine g.mono ?_
  rintro e w0 ⟨rfl, rfl⟩
  clear g
  go_wp2_with (at_builtin; refine app_row rfl (.tmp 34) (.tmp 35) rfl w.heap.size _ _ _ [] rfl (Buf.nil _ _) a n c xs rfl hx hca (by omega) (Nat.le_refl _) ?_)
  intro ao1 cap1 w1 hb1 hg1
  have s1 := hg1.size
  have hgr1 : Grew w w1 none (blk ao1) := hg1
  clear hg1 hx
  have bv : (v % 3 == 0) = false := by simp; omega
  have bv1 : (v % 3 == 1) = true := by simpa using hv
  clear hv
  go_wp2_with (at_builtin; refine app rfl (.tmp 67) (.tmp 68) rfl w.heap.size _ _ _ _ rfl (hb1.alloc _) ⟨w1.heap.size, 0, none⟩ 1 1 [91] rfl rfl ?c1_1 ?c2_1 ?c3_1 ?c4_1 ?_)
  case c1_1 => intro j hj; match j, hj with | 0, _ => simp [Addr.add]
  case c2_1 => intro y hy; simp at hy; omega
  case c3_1 => omega
  case c4_1 => simp; omega
  intro ao2 cap2 w2 hb2 hg2
  have s2 := hg2.size
  rw [World.size_alloc] at s2
  have hgr2 : Grew w w2 none (blk ao2) := (hgr1.trans (Grew.alloc _ _ _)).trans hg2
  clear hg2 hb1
  go_wp2_with fail
  refine (quote_any w.heap.size ao2 _ cap2 _ s _ w2 hb2 (by omega) (by omega)).mono ?_
  rintro e w3 ⟨ao3, n3, cap3, bd, rfl, okbd, lebd, hn3, hb3, hg3⟩
  have s3 := hg3.size
  have hgr3 : Grew w w3 none (blk ao3) := hgr2.trans hg3
  have HN3 := show Hid _ from hn3
  clear hn3 hg3 hb2
  have hle3 : n3 ≤ n + 1 + (6 * s.size + 2) := by have := HN3.out; omega
  go_wp2_with (at_builtin; refine app rfl (.tmp 74) (.tmp 75) rfl w.heap.size _ _ _ _ rfl (hb3.alloc _) ⟨w3.heap.size, 0, none⟩ 1 1 [93] rfl rfl ?c1_3 ?c2_3 ?c3_3 ?c4_3 ?_)
  case c1_3 => intro j hj; match j, hj with | 0, _ => simp [Addr.add]
  case c2_3 => intro y hy; simp at hy; omega
  case c3_3 => omega
  case c4_3 => simp; omega
  intro ao4 cap4 w4 hb4 hg4
  have s4 := hg4.size
  rw [World.size_alloc] at s4
  have hgr4 : Grew w w4 none (blk ao4) := (hgr3.trans (Grew.alloc _ _ _)).trans hg4
  clear hg4 hb3
  have fin : Hid ((((n3 : Nat) : Int) + 1) = ((n + ((flat [.inr 91, .inl bd]).length + 1) : Nat) : Int)) := by have := HN3.out; show _ = _; simp [flat]; omega
  have hy4 := hy.below (hgr4.below (B := w.heap.size) (Nat.le_refl _) (fun k hk => by cases hk))
  go_wp2_with (at_builtin; refine app_row rfl (.tmp 79) (.tmp 80) rfl w.heap.size _ _ _ _ rfl hb4 b m d ys rfl hy4 hcb (by omega) (by omega) ?_)
  intro ao5 cap5 w5 hb5 hg5
  have hgr5 : Grew w w5 none (blk ao5) := hgr4.trans hg5
  have law := zzEnd_of _ _ cap5 _ ((n + ((flat [.inr 91, .inl bd]).length + 1) : Nat) : Int) w5 (valueEnd_box ao5 _ cap5 n (xs ++ 91 :: 34 :: (bd ++ 34 :: 93 :: ys)) ys 91 93 [.inl bd] w5 (by simpa using hb5.row) (by omega) (by have := HLX.out; subst this; simp [flat]) (.inr rfl) (.inr rfl) (by simp [run, okbd]))
  clear hg5 hy4
  rw [← fin.out] at law
  go_wp2_with fail
  refine law.mono ?_
  rintro e w9 ⟨rfl, rfl⟩
  go_wp2
  go_ret
  exact ⟨by simp, hgr5.below (Nat.le_refl _) (fun k hk => by cases hk)⟩

set_option maxRecDepth 100000 in
set_option maxHeartbeats 2000000 in
theorem closed2 (a b : Option Addr) (n c m d : Nat) (s : ByteArray) (v : Int) (xs ys : List Int) (w : World) (hx : Row w a n xs) (hy : Row w b m ys) (hca : a = none → c = 0) (hcb : b = none → d = 0)
    (h1 : n ≤ 65536) (h2 : s.size ≤ 65536) (h3 : m ≤ 65536) (v0 : 0 ≤ v) (v1 : v ≤ 255) (hv : v % 3 = 2) :
    Calls Try.prog 4 #[.slice a n c, .string s, .int .u8 v, .slice b m d] w fun e w' => e = .returned (.bool true) ∧ Below w.heap.size w w' := by
  have g := guard11 a b n c m d s v w (by omega)
  have hlx := hx.len
  have HLX : Hid (xs.length = n) := hlx
  clear hlx
  go_enter Try.func4, Try.ntmps4
  go_wp2_with fail
  refine g.mono ?_
  rintro e w0 ⟨rfl, rfl⟩
  clear g
  go_wp2_with (at_builtin; refine app_row rfl (.tmp 34) (.tmp 35) rfl w.heap.size _ _ _ [] rfl (Buf.nil _ _) a n c xs rfl hx hca (by omega) (Nat.le_refl _) ?_)
  intro ao1 cap1 w1 hb1 hg1
  have s1 := hg1.size
  have hgr1 : Grew w w1 none (blk ao1) := hg1
  clear hg1 hx
  have bv : (v % 3 == 0) = false := by simp; omega
  have bv1 : (v % 3 == 1) = false := by simp; omega
  clear hv
  go_wp2_with (at_builtin; refine app rfl (.tmp 41) (.tmp 42) rfl w.heap.size _ _ _ _ rfl (hb1.alloc _) ⟨w1.heap.size, 0, none⟩ 1 1 [123] rfl rfl ?c1_1 ?c2_1 ?c3_1 ?c4_1 ?_)
  case c1_1 => intro j hj; match j, hj with | 0, _ => simp [Addr.add]
  case c2_1 => intro y hy; simp at hy; omega
  case c3_1 => omega
  case c4_1 => simp; omega
  intro ao2 cap2 w2 hb2 hg2
  have s2 := hg2.size
  rw [World.size_alloc] at s2
  have hgr2 : Grew w w2 none (blk ao2) := (hgr1.trans (Grew.alloc _ _ _)).trans hg2
  clear hg2 hb1
  go_wp2_with fail
  refine (quote_any w.heap.size ao2 _ cap2 _ s _ w2 hb2 (by omega) (by omega)).mono ?_
  rintro e w3 ⟨ao3, n3, cap3, bd, rfl, okbd, lebd, hn3, hb3, hg3⟩
  have s3 := hg3.size
  have hgr3 : Grew w w3 none (blk ao3) := hgr2.trans hg3
  have HN3 := show Hid _ from hn3
  clear hn3 hg3 hb2
  have hle3 : n3 ≤ n + 1 + (6 * s.size + 2) := by have := HN3.out; omega
  go_wp2_with (at_builtin; refine app rfl (.tmp 48) (.tmp 49) rfl w.heap.size _ _ _ _ rfl (hb3.alloc _) ⟨w3.heap.size, 0, none⟩ 1 1 [58] rfl rfl ?c1_3 ?c2_3 ?c3_3 ?c4_3 ?_)
  case c1_3 => intro j hj; match j, hj with | 0, _ => simp [Addr.add]
  case c2_3 => intro y hy; simp at hy; omega
  case c3_3 => omega
  case c4_3 => simp; omega
  intro ao4 cap4 w4 hb4 hg4
  have s4 := hg4.size
  rw [World.size_alloc] at s4
  have hgr4 : Grew w w4 none (blk ao4) := (hgr3.trans (Grew.alloc _ _ _)).trans hg4
  clear hg4 hb3
  go_wp2_with fail
  refine (quote_any w.heap.size ao4 _ cap4 _ s _ w4 hb4 (by omega) (by omega)).mono ?_
  rintro e w5 ⟨ao5, n5, cap5, be, rfl, okbe, lebe, hn5, hb5, hg5⟩
  have s5 := hg5.size
  have hgr5 : Grew w w5 none (blk ao5) := hgr4.trans hg5
  have HN5 := show Hid _ from hn5
  clear hn5 hg5 hb4
  have hle5 : n5 ≤ n3 + 1 + (6 * s.size + 2) := by have := HN5.out; omega
  go_wp2_with (at_builtin; refine app rfl (.tmp 56) (.tmp 57) rfl w.heap.size _ _ _ _ rfl (hb5.alloc _) ⟨w5.heap.size, 0, none⟩ 1 1 [125] rfl rfl ?c1_5 ?c2_5 ?c3_5 ?c4_5 ?_)
  case c1_5 => intro j hj; match j, hj with | 0, _ => simp [Addr.add]
  case c2_5 => intro y hy; simp at hy; omega
  case c3_5 => omega
  case c4_5 => simp; omega
  intro ao6 cap6 w6 hb6 hg6
  have s6 := hg6.size
  rw [World.size_alloc] at s6
  have hgr6 : Grew w w6 none (blk ao6) := (hgr5.trans (Grew.alloc _ _ _)).trans hg6
  clear hg6 hb5
  have fin : Hid ((((n5 : Nat) : Int) + 1) = ((n + ((flat [.inr 123, .inl bd, .inr 58, .inl be]).length + 1) : Nat) : Int)) := by have := HN3.out; have := HN5.out; show _ = _; simp [flat]; omega
  have hy6 := hy.below (hgr6.below (B := w.heap.size) (Nat.le_refl _) (fun k hk => by cases hk))
  go_wp2_with (at_builtin; refine app_row rfl (.tmp 79) (.tmp 80) rfl w.heap.size _ _ _ _ rfl hb6 b m d ys rfl hy6 hcb (by omega) (by omega) ?_)
  intro ao7 cap7 w7 hb7 hg7
  have hgr7 : Grew w w7 none (blk ao7) := hgr6.trans hg7
  have law := zzEnd_of _ _ cap7 _ ((n + ((flat [.inr 123, .inl bd, .inr 58, .inl be]).length + 1) : Nat) : Int) w7 (valueEnd_box ao7 _ cap7 n (xs ++ 123 :: 34 :: (bd ++ 34 :: 58 :: 34 :: (be ++ 34 :: 125 :: ys))) ys 123 125 [.inl bd, .inr 58, .inl be] w7 (by simpa using hb7.row) (by omega) (by have := HLX.out; subst this; simp [flat]) (.inl rfl) (.inl rfl) (by simp [run, okbd, okbe]))
  clear hg7 hy6
  rw [← fin.out] at law
  go_wp2_with fail
  refine law.mono ?_
  rintro e w9 ⟨rfl, rfl⟩
  go_wp2
  go_ret
  exact ⟨by simp, hgr7.below (Nat.le_refl _) (fun k hk => by cases hk)⟩

theorem closed_small (a b : Option Addr) (n c m d : Nat) (s : ByteArray) (v : Int) (xs ys : List Int) (w : World) (hx : Row w a n xs) (hy : Row w b m ys) (hca : a = none → c = 0) (hcb : b = none → d = 0)
    (h1 : n ≤ 65536) (h2 : s.size ≤ 65536) (h3 : m ≤ 65536) (v0 : 0 ≤ v) (v1 : v ≤ 255) :
    Calls Try.prog 4 #[.slice a n c, .string s, .int .u8 v, .slice b m d] w fun e w' => e = .returned (.bool true) ∧ Below w.heap.size w w' := by
  by_cases e0 : v % 3 = 0
  · exact closed0 a b n c m d s v xs ys w hx hy hca hcb h1 h2 h3 v0 v1 e0
  by_cases e1 : v % 3 = 1
  · exact closed1 a b n c m d s v xs ys w hx hy hca hcb h1 h2 h3 v0 v1 e1
  · exact closed2 a b n c m d s v xs ys w hx hy hca hcb h1 h2 h3 v0 v1 (by omega)
end Go.Proofs.Qxb6600588a.Base
