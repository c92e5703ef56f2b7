import Derived.Test.Qxb6600588aQuote
import Derived.Deep.Cut
import Derived.Deep.CutBlock
namespace Go.Proofs.Qxb6600588a.Base
open Go.RowKit
set_option linter.unusedVariables false
set_option linter.unusedSimpArgs false

/-- What the loop of zzQuote keeps: k bytes of s are written. -/
def QRel (w : World) (B : Nat) (ao : Option Addr) (xs : List Int) (k : Nat) (ao' : Option Addr) (n' cap' : Nat) (wr : World) : Prop :=
  ∃ body, okBody body = true ∧ body.length ≤ 6 * k ∧ Buf wr B ao' n' cap' (xs ++ 34 :: body) ∧ Grew w wr (blk ao) (blk ao') ∧ n' = xs.length + 1 + body.length

theorem QRel.step {w wr w2 : World} {B k m n' cap2 : Nat} {ao ao' ao2 : Option Addr} {xs ys body : List Int} {o : Obj} (h1 : okBody body = true) (h2 : body.length ≤ 6 * k) (h4 : Grew w wr (blk ao) (blk ao')) (h5 : Hid (n' = xs.length + 1 + body.length))
    (hm : ys.length = m) (hm6 : m ≤ 6) (hok : okBody ys = true) (hb : Buf w2 B ao2 (n' + m) cap2 (xs ++ 34 :: (body ++ ys))) (hg : Grew (wr.alloc o) w2 (blk ao') (blk ao2)) :
    QRel w B ao xs (k + 1) ao2 (n' + m) cap2 w2 := by
  have h5 := h5.out
  refine ⟨body ++ ys, okBody_append _ _ h1 hok, by simp; omega, ?_, (h4.trans (Grew.alloc _ _ _)).trans hg, by simp; omega⟩
  exact hb

theorem okHex (a b : Int) (ha : 48 ≤ a ∧ a ≤ 102 ∧ a ≠ 92) (hb : 48 ≤ b ∧ b ≤ 102 ∧ b ≠ 92) : okBody [92, 117, 48, 48, a, b] = true := by
  rw [okBody_esc, okBody_plain 48 _ (by omega) (by omega), okBody_plain 48 _ (by omega) (by omega), okBody_plain a _ (by omega) ha.2.2, okBody_plain b _ (by omega) hb.2.2]
  rfl

set_option maxRecDepth 100000 in
set_option maxHeartbeats 4000000 in
theorem quote_any (B : Nat) (ao : Option Addr) (n cap : Nat) (xs : List Int) (s : ByteArray) (mode : Int) (w : World) (hb : Buf w B ao n cap xs) (hB : B ≤ w.heap.size)
    (hn : n + 6 * s.size + 2 ≤ 1099511627776) :
    Calls Try.prog 12 #[.slice ao n cap, .string s, .int .u8 mode] w fun e w' =>
      ∃ ao' n' cap' body, e = .returned (.slice ao' n' cap') ∧ okBody body = true ∧ body.length ≤ 6 * s.size ∧ n' = n + (body.length + 2) ∧ Buf w' B ao' n' cap' (xs ++ 34 :: (body ++ [34])) ∧ Grew w w' (blk ao) (blk ao') := by
  have hl := hb.len
  have HL : Hid (xs.length = n) := hl
  clear hl
  go_enter Try.func12, Try.ntmps12
  go_wp2_with (at_builtin; refine app rfl (.tmp 13) (.tmp 14) rfl B _ _ _ xs rfl (hb.alloc _) ⟨w.heap.size, 0, none⟩ 1 1 [34] rfl rfl ?c1 ?c2 ?c3 ?c4 ?_)
  case c1 => intro j hj; match j, hj with | 0, _ => simp [Addr.add]
  case c2 => intro y hy; simp at hy; omega
  case c3 => omega
  case c4 => simp; omega
  intro ao1 cap1 w1 hb1 hg1
  have hs1 := hg1.size
  have R1 : QRel w B ao xs 0 ao1 (n + 1) cap1 w1 := ⟨[], rfl, Nat.le_refl _, by simpa using hb1, (Grew.alloc w _ _).trans hg1, by have := HL.out; simp; omega⟩
  clear hb1 hg1
  generalize hm8 : (bits BinOp.and IntKind.u8 mode 8 != 0) = up
  have Hm8 : Hid ((bits BinOp.and IntKind.u8 mode 8 != 0) = up) := hm8
  clear hm8
  go_wp2_with fail
  go_loopw [0, 8] (fun v i wr => ∃ (k : Nat) (ao' : Option Addr) (n' cap' : Nat), k ≤ s.size ∧ i = .int .i64 k ∧ v = .slice ao' n' cap' ∧ n' ≤ n + 6 * k + 1 ∧ B ≤ wr.heap.size ∧ QRel w B ao xs k ao' n' cap' wr) (fun _ i _ => s.size - (intOf i).toNat)
  case atStart => exact ⟨0, ao1, n + 1, cap1, Nat.zero_le _, rfl, rfl, by omega, by simp at hs1; omega, R1⟩
  case round =>
    obtain ⟨k, ao', n', cap', hk, rfl, rfl, hn', hBr, body, ho, hbl, hbuf, hgr, hnn⟩ := hrel
    have HN : Hid (n' = xs.length + 1 + body.length) := hnn
    clear hnn R1 hb
    by_cases hlt : k < s.size
    · have hx1 : 0 ≤ (s[k].toNat : Int) ∧ (s[k].toNat : Int) < 256 := by have := s[k].toNat_lt; omega
      have HX : Hid (0 ≤ (s[k].toNat : Int) ∧ (s[k].toNat : Int) < 256) := hx1
      clear hx1
      go_upto_region 7 with fail
      generalize (s[k].toNat : Int) = x at *
      obtain ⟨hx0, hx256⟩ := HX.out
      clear HX
      by_cases h34 : x = 34
      · subst h34
        go_wp2_with (at_builtin; refine app rfl (.tmp 31) (.tmp 33) rfl B _ _ _ (xs ++ 34 :: body) rfl (hbuf.alloc _) ⟨wr.heap.size, 0, none⟩ 2 2 [92, 34] rfl rfl ?c1a ?c2a ?c3a ?c4a ?_)
        case c1a => intro j hj; match j, hj with | 0, _ => simp [Addr.add] | 1, _ => simp [Addr.add]
        case c2a => intro y hy; simp at hy; omega
        case c3a => omega
        case c4a => (try simp); omega
        intro ao2 cap2 w2 hb2 hg2
        have hs2 := hg2.size
        have R2 := QRel.step (k := k) (m := 2) ho hbl hgr HN rfl (by omega) (show okBody [92, 34] = true from by rw [okBody_esc]; rfl) hb2 hg2
        clear hb2 hg2 hbuf hgr
        go_wp2
        go_roundw
        case rel => exact ⟨k + 1, ao2, n' + 2, cap2, by omega, by go_num, rfl, by omega, by simp at hs2; omega, R2⟩
        case measure => simp [intOf]; omega
      have b34 : (x == 34) = false := by simpa using h34
      by_cases h92 : x = 92
      · subst h92
        go_wp2_with (at_builtin; refine app rfl (.tmp 31) (.tmp 33) rfl B _ _ _ (xs ++ 34 :: body) rfl (hbuf.alloc _) ⟨wr.heap.size, 0, none⟩ 2 2 [92, 92] rfl rfl ?c1b ?c2b ?c3b ?c4b ?_)
        case c1b => intro j hj; match j, hj with | 0, _ => simp [Addr.add] | 1, _ => simp [Addr.add]
        case c2b => intro y hy; simp at hy; omega
        case c3b => omega
        case c4b => (try simp); omega
        intro ao2 cap2 w2 hb2 hg2
        have hs2 := hg2.size
        have R2 := QRel.step (k := k) (m := 2) ho hbl hgr HN rfl (by omega) (show okBody [92, 92] = true from by rw [okBody_esc]; rfl) hb2 hg2
        clear hb2 hg2 hbuf hgr
        go_wp2
        go_roundw
        case rel => exact ⟨k + 1, ao2, n' + 2, cap2, by omega, by go_num, rfl, by omega, by simp at hs2; omega, R2⟩
        case measure => simp [intOf]; omega
      have b92 : (x == 92) = false := by simpa using h92
      cases m2 : (x == 47 && (bits BinOp.and IntKind.u8 mode 2 != 0))
      case true =>
        obtain ⟨hx47, m2'⟩ : x = 47 ∧ (bits BinOp.and IntKind.u8 mode 2 != 0) = true := by simpa using m2
        subst hx47
        clear m2
        go_wp2_with (at_builtin; refine app rfl (.tmp 42) (.tmp 43) rfl B _ _ _ (xs ++ 34 :: body) rfl (hbuf.alloc _) ⟨wr.heap.size, 0, none⟩ 2 2 [92, 47] rfl rfl ?c1c ?c2c ?c3c ?c4c ?_)
        case c1c => intro j hj; match j, hj with | 0, _ => simp [Addr.add] | 1, _ => simp [Addr.add]
        case c2c => intro y hy; simp at hy; omega
        case c3c => omega
        case c4c => (try simp); omega
        intro ao2 cap2 w2 hb2 hg2
        have hs2 := hg2.size
        have R2 := QRel.step (k := k) (m := 2) ho hbl hgr HN rfl (by omega) (show okBody [92, 47] = true from by rw [okBody_esc]; rfl) hb2 hg2
        clear hb2 hg2 hbuf hgr
        go_wp2
        go_roundw
        case rel => exact ⟨k + 1, ao2, n' + 2, cap2, by omega, by go_num, rfl, by omega, by simp at hs2; omega, R2⟩
        case measure => simp [intOf]; omega
      case false =>
        by_cases h47 : x = 47
        · have m2' : (bits BinOp.and IntKind.u8 mode 2 != 0) = false := by rw [h47] at m2; simpa using m2
          subst h47
          clear m2
          cases m4 : (bits BinOp.and IntKind.u8 mode 4 != 0)
          case true =>
            go_wp2_with fail
            have hh1 := hex_bd 2 up (by omega) (by omega)
            refine (hex_any 2 _ _ (by omega) (by omega)).mono ?_
            rintro e wq ⟨rfl, rfl⟩
            generalize hex 2 up = p1 at *
            go_wp2_with fail
            have hh2 := hex_bd 15 up (by omega) (by omega)
            refine (hex_any 15 _ _ (by omega) (by omega)).mono ?_
            rintro e wq ⟨rfl, rfl⟩
            generalize hex 15 up = p2 at *
            go_wp2_with (at_builtin; refine app rfl (.tmp 73) (.tmp 82) rfl B _ _ _ (xs ++ 34 :: body) rfl (hbuf.alloc _) ⟨wr.heap.size, 0, none⟩ 6 6 [92, 117, 48, 48, p1, p2] rfl rfl ?c1d ?c2d ?c3d ?c4d ?_)
            case c1d => intro j hj; match j, hj with | 0, _ => simp [Addr.add] | 1, _ => simp [Addr.add] | 2, _ => simp [Addr.add] | 3, _ => simp [Addr.add] | 4, _ => simp [Addr.add] | 5, _ => simp [Addr.add]
            case c2d => intro y hy; simp at hy; omega
            case c3d => omega
            case c4d => (try simp); omega
            intro ao2 cap2 w2 hb2 hg2
            have hs2 := hg2.size
            have R2 := QRel.step (k := k) (m := 6) ho hbl hgr HN rfl (by omega) (show okBody [92, 117, 48, 48, p1, p2] = true from okHex p1 p2 hh1 hh2) hb2 hg2
            clear hb2 hg2 hbuf hgr
            go_wp2
            go_roundw
            case rel => exact ⟨k + 1, ao2, n' + 6, cap2, by omega, by go_num, rfl, by omega, by simp at hs2; omega, R2⟩
            case measure => simp [intOf]; omega
          case false =>
            go_wp2_with (at_builtin; refine app rfl (.tmp 84) (.tmp 86) rfl B _ _ _ (xs ++ 34 :: body) rfl (hbuf.alloc _) ⟨wr.heap.size, 0, none⟩ 1 1 [47] rfl rfl ?c1e ?c2e ?c3e ?c4e ?_)
            case c1e => intro j hj; match j, hj with | 0, _ => simp [Addr.add]
            case c2e => intro y hy; simp at hy; omega
            case c3e => omega
            case c4e => (try simp); omega
            intro ao2 cap2 w2 hb2 hg2
            have hs2 := hg2.size
            have R2 := QRel.step (k := k) (m := 1) ho hbl hgr HN rfl (by omega) (show okBody [47] = true from rfl) hb2 hg2
            clear hb2 hg2 hbuf hgr
            go_wp2
            go_roundw
            case rel => exact ⟨k + 1, ao2, n' + 1, cap2, by omega, by go_num, rfl, by omega, by simp at hs2; omega, R2⟩
            case measure => simp [intOf]; omega
        have b47 : (x == 47) = false := by simpa using h47
        clear m2
        by_cases h32 : x < 32
        · cases m1 : (bits BinOp.and IntKind.u8 mode 1 != 0)
          case false =>
            go_wp2_with fail
            have hh1 := hex_bd (x / 16) up (by omega) (by omega)
            refine (hex_any _ _ _ (by omega) (by omega)).mono ?_
            rintro e wq ⟨rfl, rfl⟩
            generalize hex (x / 16) up = p1 at *
            go_wp2_with fail
            have hh2 := hex_bd (x % 16) up (by omega) (by omega)
            refine (hex_any _ _ _ (by omega) (by omega)).mono ?_
            rintro e wq ⟨rfl, rfl⟩
            generalize hex (x % 16) up = p2 at *
            go_wp2_with (at_builtin; refine app rfl (.tmp 73) (.tmp 82) rfl B _ _ _ (xs ++ 34 :: body) rfl (hbuf.alloc _) ⟨wr.heap.size, 0, none⟩ 6 6 [92, 117, 48, 48, p1, p2] rfl rfl ?c1f ?c2f ?c3f ?c4f ?_)
            case c1f => intro j hj; match j, hj with | 0, _ => simp [Addr.add] | 1, _ => simp [Addr.add] | 2, _ => simp [Addr.add] | 3, _ => simp [Addr.add] | 4, _ => simp [Addr.add] | 5, _ => simp [Addr.add]
            case c2f => intro y hy; simp at hy; omega
            case c3f => omega
            case c4f => (try simp); omega
            intro ao2 cap2 w2 hb2 hg2
            have hs2 := hg2.size
            have R2 := QRel.step (k := k) (m := 6) ho hbl hgr HN rfl (by omega) (show okBody [92, 117, 48, 48, p1, p2] = true from okHex p1 p2 hh1 hh2) hb2 hg2
            clear hb2 hg2 hbuf hgr
            go_wp2
            go_roundw
            case rel => exact ⟨k + 1, ao2, n' + 6, cap2, by omega, by go_num, rfl, by omega, by simp at hs2; omega, R2⟩
            case measure => simp [intOf]; omega
          case true =>
            have hsb := short_bd x
            cases hsx : (short x != 0)
            case true =>
              go_wp2_with fail
              refine (short_any _ _).mono ?_
              rintro e wq ⟨rfl, rfl⟩
              go_wp2_with fail
              refine (short_any _ _).mono ?_
              rintro e wq ⟨rfl, rfl⟩
              generalize short x = sy at *
              go_wp2_with (at_builtin; refine app rfl (.tmp 57) (.tmp 60) rfl B _ _ _ (xs ++ 34 :: body) rfl (hbuf.alloc _) ⟨wr.heap.size, 0, none⟩ 2 2 [92, sy] rfl rfl ?c1g ?c2g ?c3g ?c4g ?_)
              case c1g => intro j hj; match j, hj with | 0, _ => simp [Addr.add] | 1, _ => simp [Addr.add]
              case c2g => intro y hy; simp at hy; omega
              case c3g => omega
              case c4g => (try simp); omega
              intro ao2 cap2 w2 hb2 hg2
              have hs2 := hg2.size
              have R2 := QRel.step (k := k) (m := 2) ho hbl hgr HN rfl (by omega) (show okBody [92, sy] = true from by rw [okBody_esc]; rfl) hb2 hg2
              clear hb2 hg2 hbuf hgr
              go_wp2
              go_roundw
              case rel => exact ⟨k + 1, ao2, n' + 2, cap2, by omega, by go_num, rfl, by omega, by simp at hs2; omega, R2⟩
              case measure => simp [intOf]; omega
            case false =>
              go_wp2_with fail
              refine (short_any _ _).mono ?_
              rintro e wq ⟨rfl, rfl⟩
              go_wp2_with fail
              have hh1 := hex_bd (x / 16) up (by omega) (by omega)
              refine (hex_any _ _ _ (by omega) (by omega)).mono ?_
              rintro e wq ⟨rfl, rfl⟩
              generalize hex (x / 16) up = p1 at *
              go_wp2_with fail
              have hh2 := hex_bd (x % 16) up (by omega) (by omega)
              refine (hex_any _ _ _ (by omega) (by omega)).mono ?_
              rintro e wq ⟨rfl, rfl⟩
              generalize hex (x % 16) up = p2 at *
              go_wp2_with (at_builtin; refine app rfl (.tmp 73) (.tmp 82) rfl B _ _ _ (xs ++ 34 :: body) rfl (hbuf.alloc _) ⟨wr.heap.size, 0, none⟩ 6 6 [92, 117, 48, 48, p1, p2] rfl rfl ?c1h ?c2h ?c3h ?c4h ?_)
              case c1h => intro j hj; match j, hj with | 0, _ => simp [Addr.add] | 1, _ => simp [Addr.add] | 2, _ => simp [Addr.add] | 3, _ => simp [Addr.add] | 4, _ => simp [Addr.add] | 5, _ => simp [Addr.add]
              case c2h => intro y hy; simp at hy; omega
              case c3h => omega
              case c4h => (try simp); omega
              intro ao2 cap2 w2 hb2 hg2
              have hs2 := hg2.size
              have R2 := QRel.step (k := k) (m := 6) ho hbl hgr HN rfl (by omega) (show okBody [92, 117, 48, 48, p1, p2] = true from okHex p1 p2 hh1 hh2) hb2 hg2
              clear hb2 hg2 hbuf hgr
              go_wp2
              go_roundw
              case rel => exact ⟨k + 1, ao2, n' + 6, cap2, by omega, by go_num, rfl, by omega, by simp at hs2; omega, R2⟩
              case measure => simp [intOf]; omega
        · by_cases h127 : x < 127
          · cases m4 : (bits BinOp.and IntKind.u8 mode 4 != 0)
            case true =>
              go_wp2_with fail
              have hh1 := hex_bd (x / 16) up (by omega) (by omega)
              refine (hex_any _ _ _ (by omega) (by omega)).mono ?_
              rintro e wq ⟨rfl, rfl⟩
              generalize hex (x / 16) up = p1 at *
              go_wp2_with fail
              have hh2 := hex_bd (x % 16) up (by omega) (by omega)
              refine (hex_any _ _ _ (by omega) (by omega)).mono ?_
              rintro e wq ⟨rfl, rfl⟩
              generalize hex (x % 16) up = p2 at *
              go_wp2_with (at_builtin; refine app rfl (.tmp 73) (.tmp 82) rfl B _ _ _ (xs ++ 34 :: body) rfl (hbuf.alloc _) ⟨wr.heap.size, 0, none⟩ 6 6 [92, 117, 48, 48, p1, p2] rfl rfl ?c1i ?c2i ?c3i ?c4i ?_)
              case c1i => intro j hj; match j, hj with | 0, _ => simp [Addr.add] | 1, _ => simp [Addr.add] | 2, _ => simp [Addr.add] | 3, _ => simp [Addr.add] | 4, _ => simp [Addr.add] | 5, _ => simp [Addr.add]
              case c2i => intro y hy; simp at hy; omega
              case c3i => omega
              case c4i => (try simp); omega
              intro ao2 cap2 w2 hb2 hg2
              have hs2 := hg2.size
              have R2 := QRel.step (k := k) (m := 6) ho hbl hgr HN rfl (by omega) (show okBody [92, 117, 48, 48, p1, p2] = true from okHex p1 p2 hh1 hh2) hb2 hg2
              clear hb2 hg2 hbuf hgr
              go_wp2
              go_roundw
              case rel => exact ⟨k + 1, ao2, n' + 6, cap2, by omega, by go_num, rfl, by omega, by simp at hs2; omega, R2⟩
              case measure => simp [intOf]; omega
            case false =>
              go_wp2_with (at_builtin; refine app rfl (.tmp 84) (.tmp 86) rfl B _ _ _ (xs ++ 34 :: body) rfl (hbuf.alloc _) ⟨wr.heap.size, 0, none⟩ 1 1 [x] rfl rfl ?c1j ?c2j ?c3j ?c4j ?_)
              case c3j => omega
              case c4j => (try simp); omega
              intro ao2 cap2 w2 hb2 hg2
              have hs2 := hg2.size
              have R2 := QRel.step (k := k) (m := 1) ho hbl hgr HN rfl (by omega) (show okBody [x] = true from by rw [okBody_plain x _ h34 h92]; rfl) hb2 hg2
              clear hb2 hg2 hbuf hgr
              go_wp2
              go_roundw
              case rel => exact ⟨k + 1, ao2, n' + 1, cap2, by omega, by go_num, rfl, by omega, by simp at hs2; omega, R2⟩
              case measure => simp [intOf]; omega
          ·
            go_wp2_with (at_builtin; refine app rfl (.tmp 84) (.tmp 86) rfl B _ _ _ (xs ++ 34 :: body) rfl (hbuf.alloc _) ⟨wr.heap.size, 0, none⟩ 1 1 [x] rfl rfl ?c1k ?c2k ?c3k ?c4k ?_)
            case c3k => omega
            case c4k => (try simp); omega
            intro ao2 cap2 w2 hb2 hg2
            have hs2 := hg2.size
            have R2 := QRel.step (k := k) (m := 1) ho hbl hgr HN rfl (by omega) (show okBody [x] = true from by rw [okBody_plain x _ h34 h92]; rfl) hb2 hg2
            clear hb2 hg2 hbuf hgr
            go_wp2
            go_roundw
            case rel => exact ⟨k + 1, ao2, n' + 1, cap2, by omega, by go_num, rfl, by omega, by simp at hs2; omega, R2⟩
            case measure => simp [intOf]; omega
    · obtain rfl : k = s.size := by omega
      go_wp2_with (at_builtin; refine app rfl (.tmp 88) (.tmp 89) rfl B _ _ _ (xs ++ 34 :: body) rfl (hbuf.alloc _) ⟨wr.heap.size, 0, none⟩ 1 1 [34] rfl rfl ?c1z ?c2z ?c3z ?c4z ?_)
      case c1z => intro j hj; match j, hj with | 0, _ => simp [Addr.add]
      case c2z => intro y hy; simp at hy; omega
      case c3z => omega
      case c4z => simp; omega
      intro ao2 cap2 w2 hb2 hg2
      go_wp2
      go_ret
      exact ⟨ao2, _, cap2, body, rfl, ho, hbl, by have := HN.out; have := HL.out; omega, hb2, (hgr.trans (Grew.alloc _ _ _)).trans hg2⟩
end Go.Proofs.Qxb6600588a.Base
