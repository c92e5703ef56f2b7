import Derived.Test.Qxb6600588aValue
import Derived.Test.Qxb6600588aGuard
import Derived.Test.Qxb6600588aClosed
import Derived.Deep.QuietTactic
import Derived.BigQuiet
import Derived.WalkSmall
namespace Go.Proofs.Qxb6600588a.Base
open Go.RowKit
set_option linter.unusedVariables false
set_option linter.unusedSimpArgs false

theorem doc_start (w : World) : DocX (w.alloc (.cells #[.slice none 0 0, .slice none 0 0, .slice none 0 0, .slice none 0 0, .int .i64 0, .int .i64 0, .int .i64 0, .int .i64 0] 29)) w.heap.size [] [] [] 0 0 0 0 :=
  ⟨⟨none, 0, none, 0, none, 0, none, 0, 0⟩, [], ⟨heap_alloc_new w _, Buf.nil _ _, World.ownsRow_nil _ _ _ _, World.ownsRow_nil _ _ _ _, Buf.nil _ _, .inl rfl, .inl rfl, .inl rfl, .inl rfl⟩, rfl, rfl⟩

theorem IBuf.at {w : World} {B : Nat} {ao : Option Addr} {n cap : Nat} {xs : List Int} (h : IBuf w B ao n cap xs) (hn : 0 < n) :
    ∃ g, ao = some ⟨g, 0, none⟩ ∧ ∀ k, (hk : k < xs.length) → w.cell? ⟨g, k, none⟩ = some (.int .i64 xs[k]) := by
  have hl := h.len
  rcases h.2 with ⟨_, e0⟩ | ⟨g, c', cur, e, hbg, hg, hnc, hcm, hcs, htake⟩
  · omega
  · simp only [Value.slice.injEq, true_and] at e
    obtain ⟨e1, e2⟩ := e
    refine ⟨g, e1, fun k hk => ?_⟩
    subst e1 e2
    have h' : w.ownsRow B 3 1 (.slice (some ⟨g, 0, none⟩) n cap) n (xs.map (Value.int .i64)) := h
    rw [h'.cellAt k (by omega), List.getElem?_map, List.getElem?_eq_getElem hk]
    rfl

theorem cell_heap {w w' : World} (hh : w'.heap = w.heap) (p : Addr) : w'.cell? p = w.cell? p := World.cell?_of_block (by rw [hh])

theorem Row.heap {w w' : World} {a : Option Addr} {n : Nat} {xs : List Int} (h : Row w a n xs) (hh : w'.heap = w.heap) : Row w' a n xs where
  len := h.len
  cell := fun x hx i hi => by rw [cell_heap hh]; exact h.cell x hx i hi
  zero := h.zero
  wf := h.wf

/-- The delimiters of the law. -/
theorem delim_at (t : Nat) (h : t < (⟨#[44, 125, 93, 32, 9, 13, 10]⟩ : ByteArray).size) : dl (((⟨#[44, 125, 93, 32, 9, 13, 10]⟩ : ByteArray)[t]'h).toNat : Int) = true ∧ (0 : Int) ≤ (((⟨#[44, 125, 93, 32, 9, 13, 10]⟩ : ByteArray)[t]'h).toNat : Int) ∧ (((⟨#[44, 125, 93, 32, 9, 13, 10]⟩ : ByteArray)[t]'h).toNat : Int) < 256 := by
  refine ⟨?_, Int.natCast_nonneg _, Int.lt_of_lt_of_le (Int.ofNat_lt.2 (UInt8.toNat_lt _)) (by decide)⟩
  have h' : t < 7 := h
  match t, h with
  | 0, _ => rfl
  | 1, _ => rfl
  | 2, _ => rfl
  | 3, _ => rfl
  | 4, _ => rfl
  | 5, _ => rfl
  | 6, _ => rfl

set_option maxRecDepth 100000 in
set_option maxHeartbeats 3200000 in
theorem finds_any (a0 a1 a2 a3 a5 : Option Addr) (n0 c0 n1 c1 m c2 q c3 n5 c5 : Nat) (sep : Int) (xs ys zs : List Int) (ss : List ByteArray) (w : World)
    (h0 : Row w a0 n0 xs) (h1 : Row w a1 n1 ys) (h2 : SRow w a2 m ss) (h3 : NRow w a3 q) (h5 : Row w a5 n5 zs) (hz0 : a0 = none → c0 = 0) (hz5 : a5 = none → c5 = 0)
    (hss : ∀ s ∈ ss, s.size ≤ maxLen) (b0 : n0 ≤ maxLen) (b1 : n1 ≤ maxLen) (b2 : m ≤ maxLen) (b3 : q ≤ maxLen) (b5 : n5 ≤ maxLen) (hs0 : 0 ≤ sep) (hs1 : sep ≤ 255) :
    Calls Try.prog 3 #[.slice a0 n0 c0, .slice a1 n1 c1, .slice a2 m c2, .slice a3 q c3, .int .u8 sep, .slice a5 n5 c5] w fun e w' => e = .returned (.bool true) ∧ Below w.heap.size w w' := by
  have gd := guard7_any a0 a1 a2 a3 a5 n0 c0 n1 c1 m c2 q c3 n5 c5 sep ss w h2 hss b0 b1 b2 b3 b5
  have db := fun hss' => docBytes_any a1 a2 a3 n1 c1 m c2 q c3 ss w h2 hss' b1 b2 b3
  have DB := show Hid _ from db
  have H0 := show Hid _ from h0
  have H1 := show Hid _ from h1
  have H2 := show Hid _ from h2
  have H3 := show Hid _ from h3
  have H5 := show Hid _ from h5
  have HZ0 := show Hid _ from hz0
  have HZ5 := show Hid _ from hz5
  clear db h0 h1 h2 h3 h5 hz0 hz5 hss b1 b2 b3
  unfold maxLen at b0 b5
  by_cases p0 : 65536 < n0
  · go_enter Try.func3, Try.ntmps3
    go_wp2_with fail
    refine gd.mono ?_
    rintro e w' ⟨r, rfl, rfl, _⟩
    cases r
    all_goals
      go_wp2
      go_ret
      exact ⟨rfl, Below.refl _ _⟩
  by_cases p5 : 65536 < n5
  · go_enter Try.func3, Try.ntmps3
    go_wp2_with fail
    refine gd.mono ?_
    rintro e w' ⟨r, rfl, rfl, _⟩
    cases r
    all_goals
      go_wp2
      go_ret
      exact ⟨rfl, Below.refl _ _⟩
  go_enter Try.func3, Try.ntmps3
  go_wp2_with fail
  refine gd.mono ?_
  rintro e w' ⟨r, rfl, rfl, hsz⟩
  clear gd
  cases r
  case false =>
    go_wp2
    go_ret
    exact ⟨rfl, Below.refl _ _⟩
  case true =>
    have HSZ := show Hid _ from hsz rfl
    clear hsz
    go_wp2_with fail
    refine (DB.out HSZ.out).mono ?_
    rintro e w' ⟨r, rfl, rfl, hr⟩
    clear DB HSZ
    rcases hr with rfl | ⟨r0, r1, hlim, hsm⟩
    · go_wp2
      go_ret
      exact ⟨rfl, Below.refl _ _⟩
    by_cases hbig : 1048576 < r + n0 + n5
    · go_wp2
      go_ret
      exact ⟨rfl, Below.refl _ _⟩
    have HCM : Hid (Came w w.heap.size a1 n1 ys a2 m ss a3 q) := ⟨rfl, H1.out, H2.out, hsm, H3.out, hlim⟩
    clear hsm H1 H2 H3
    have hX0 := doc_start w
    have hB0 : Below w.heap.size w (w.alloc (.cells #[.slice none 0 0, .slice none 0 0, .slice none 0 0, .slice none 0 0, .int .i64 0, .int .i64 0, .int .i64 0, .int .i64 0] 29)) := (Below.refl _ w).alloc (Nat.le_refl _) _
    have HX0 := show Hid _ from hX0
    have HB0 := show Hid _ from hB0
    clear hX0 hB0
    go_upto_region 9 with fail
    generalize hWD : w.alloc (.cells #[.slice none 0 0, .slice none 0 0, .slice none 0 0, .slice none 0 0, .int .i64 0, .int .i64 0, .int .i64 0, .int .i64 0] 29) = wD at *
    clear hWD
    generalize hDD : w.heap.size = D at *
    have HDD : Hid (w.heap.size = D) := hDD
    clear hDD
    obtain ⟨p, kinds, hd, hnk, hne⟩ := HX0.out
    have cc0 : wD.cell? ⟨D, 0, none⟩ = some (.slice p.ao 0 p.co) := hd.cell 0
    have hltD := hd.lt
    have HD := show Hid _ from hd
    have oD := hd.oD
    have hlx : xs.length ≤ 65536 := by have := H0.out.len; omega
    have H0D := show Hid _ from H0.out.below (HDD.out ▸ HB0.out)
    clear hd HX0 H0
    go_wp2_with (at_builtin; refine app_row rfl (.tmp 50) (.tmp 51) rfl D _ _ _ [] rfl HD.out.out a0 n0 c0 xs rfl H0D.out HZ0.out (by omega) (by omega) ?_)
    intro ao1 k1 w1 hb1 hg1
    have hc0 : w1.cell? ⟨D, 0, none⟩ = some (.slice p.ao 0 p.co) := (HD.out.cellG hg1 oD 0).1
    have hf0 := (HD.out.cellG hg1 oD 0).2
    have hD1 := HD.out.setOut hg1 (show Buf w1 D ao1 n0 k1 xs by simpa using hb1)
    have HD1 := show Hid _ from hD1
    have HNK := show Hid _ from hnk
    have hB1 : Below D w (w1.setCell ⟨D, 0, none⟩ (.slice ao1 n0 k1)) := (HB0.out.trans (hg1.below (by omega) (own_base HD.out.out.own))).setCell (Nat.le_refl _) _
    have HB1 := show Hid _ from hB1
    clear hD1 hB1 hb1 hg1 HD HB0 H0D oD hnk hne cc0
    go_upto_region 10 with fail
    generalize hW : w1.setCell ⟨D, 0, none⟩ (.slice ao1 n0 k1) = w2 at *
    clear hW hc0 hf0
    go_wp2_with fail
    refine (root_any HCM.out c1 c2 c3 w2 xs HB1.out ⟨_, _, HD1.out, HNK.out, rfl⟩ (by omega)).mono ?_
    rintro e w3 ⟨rfl, V, S, E, ps, sj, nj, wj, ts, ⟨p3, kinds3, hd3, hnk3, hne3⟩, hB3, hI, hV, hSl⟩
    have HB3 := show Hid _ from HB1.out.trans hB3
    have HI := show Hid _ from hI
    have HE3 : Hid (E.length = S.length) := hne3
    have hlT : (xs ++ V).length ≤ 6000000000 := by simp; omega
    generalize hT : xs ++ V = T at *
    have HT : Hid (xs ++ V = T) := hT
    have HD3 : Hid (Doc w3 D p3 T S E kinds3 ps sj nj wj) := hd3
    clear hB3 hI hd3 hT HB1 HD1 HNK HCM hnk3 hne3
    have H5W := show Hid _ from H5.out
    have hl5 : zs.length ≤ 65536 := by have := H5.out.len; omega
    go_upto_if 60 with fail
    go_cut [] from 58 to 73 (fun wc => ∃ p' rest, Dl rest ∧ rest.length ≤ 65537 ∧ Doc wc D p' (T ++ rest) S E kinds3 ps sj nj wj ∧ Below D w3 wc)
    case first =>
      by_cases hsep : sep % 8 < 7
      · have t1 : (0 : Int) ≤ sep.tmod 8 := by rw [Int.tmod_eq_emod_of_nonneg hs0]; omega
        have t2 : sep.tmod 8 < 7 := by rw [Int.tmod_eq_emod_of_nonneg hs0]; omega
        have c0 : w3.cell? ⟨D, 0, none⟩ = some (.slice p3.ao T.length p3.co) := HD3.out.cell 0
        have f0 := HD3.out.frozen 0
        have hlt3 := HD3.out.lt
        have oD3 := HD3.out.oD
        have hix : (sep.tmod 8).toNat < (⟨#[44, 125, 93, 32, 9, 13, 10]⟩ : ByteArray).size := by show _ < 7; omega
        have HY := show Hid _ from delim_at (sep.tmod 8).toNat hix
        go_upto_region 12 with fail
        go_cut [] from 58 to 68 (fun wc => ∃ p' y, dl y = true ∧ Doc wc D p' (T ++ [y]) S E kinds3 ps sj nj wj ∧ Below D w3 wc)
        case first =>
          go_region_law
            ((refine step_app1 (by rfl) _ _ (by rfl) D p3.ao T.length p3.co T (by rfl) (HD3.out.laid _).out ⟨w3.heap.size, 0, none⟩ 1 (((⟨#[44, 125, 93, 32, 9, 13, 10]⟩ : ByteArray)[(sep.tmod 8).toNat]'hix).toNat : Int) (by rfl) (by simp) HY.out.2 (by omega) (by simp; omega) ?_; intro a1 k1 w1 hb1 hg1; have hc1 : w1.cell? ⟨D, 0, none⟩ = some (.slice p3.ao T.length p3.co) := ((HD3.out.laid _).cellG hg1 oD3 0).1; have hf1 := ((HD3.out.laid _).cellG hg1 oD3 0).2))
          all_goals
            go_wp2_with fail
            go_meet
            case rel =>
              exact ⟨_, _, HY.out.1, (HD3.out.laid _).setOut hg1 hb1, below_laid (Nat.le_of_lt hlt3) hg1 (own_base HD3.out.out.own)⟩
        case rest =>
          obtain ⟨p4, y, hdy, hd4, hB4⟩ := hcut
          have c0 : wc.cell? ⟨D, 0, none⟩ = some (.slice p4.ao (T.length + 1) p4.co) := by have := hd4.cell 0; rw [this]; simp [fields]
          have hlt4 := hd4.lt
          have oD4 := hd4.oD
          have HD4 := show Hid _ from hd4
          have hb4 : Buf wc D p4.ao (T.length + 1) p4.co (T ++ [y]) := by have := hd4.out; simpa using this
          have HB4 := show Hid _ from hb4
          have HBW := show Hid _ from hB4
          have H5c := show Hid _ from H5W.out.below (HDD.out ▸ (HB3.out.trans hB4))
          clear hd4 hb4 hB4 HY t1 t2 hix
          go_wp2_with (at_builtin; refine app_row rfl (.tmp 70) (.tmp 71) rfl D _ _ _ (T ++ [y]) rfl HB4.out a5 n5 c5 zs rfl H5c.out HZ5.out (by omega) (by omega) ?_)
          intro a6 k6 w6 hb6 hg6
          have hc0 : w6.cell? ⟨D, 0, none⟩ = some (.slice p4.ao (T ++ [y]).length p4.co) := (HD4.out.cellG hg6 oD4 0).1
          have hf0 := (HD4.out.cellG hg6 oD4 0).2
          have HD6 := show Hid _ from HD4.out.setOut hg6 hb6
          have HB6 := show Hid _ from (HBW.out.trans (hg6.below (Nat.le_of_lt hlt4) (own_base HD4.out.out.own))).setCell (p := ⟨D, 0, none⟩) (Nat.le_refl _) (.slice a6 (T.length + 1 + n5) k6)
          clear hb6 hg6 HD4 HB4 H5c HBW
          go_wp2_with fail
          go_meet
          case rel =>
            exact ⟨_, y :: zs, .inr ⟨y, zs, rfl, hdy⟩, by simp; omega, by simpa using HD6.out, HB6.out⟩
      · go_wp2_with fail
        go_meet
        case rel =>
          exact ⟨p3, [], .inl rfl, by simp, by simpa using HD3.out, Below.refl _ _⟩
    case rest =>
      obtain ⟨p4, rest, hrest, hrl, hd4, hB4⟩ := hcut
      have HREC : Hid (Recs (T ++ rest) S E) := by have := HI.out.recs rest hrest; rw [← List.append_assoc, HT.out] at this; exact this
      have hTl : (T ++ rest).length ≤ 7000000000 := by simp; omega
      generalize T ++ rest = T4 at *
      have HD4 : Hid (Doc wc D p4 T4 S E kinds3 ps sj nj wj) := hd4
      have HBc : Hid (Below D w wc) := HB3.out.trans hB4
      clear hd4 hB4 hrest HI HT HD3 HB3 H5W H5 HZ5 HZ0 hlT hl5 hlx hbig hlim
      go_wp2_with fail
      go_loopw [15] (fun i wr => ∃ k : Nat, i = .int .i64 k ∧ k ≤ S.length ∧ Hid (Doc wr D p4 T4 S E kinds3 ps sj nj wj) ∧ Hid (Below D w wr)) (fun i _ => S.length - (intOf i).toNat)
      case atStart => exact ⟨0, rfl, Nat.zero_le _, HD4, HBc⟩
      case round =>
        obtain ⟨k, rfl, hk, hdk, hbk⟩ := hrel
        clear HD4 HBc
        have d1 : wr.cell? ⟨D, 1, none⟩ = some (.slice p4.as' S.length p4.cs) := hdk.out.cell 1
        by_cases hlt : k < S.length
        · have hEl := HE3.out
          obtain ⟨gs, es, hcs⟩ := hdk.out.sts.at (by omega)
          obtain ⟨ge, ee, hce⟩ := hdk.out.ens.at (by omega)
          have d0 : wr.cell? ⟨D, 0, none⟩ = some (.slice p4.ao T4.length p4.co) := hdk.out.cell 0
          have d2 : wr.cell? ⟨D, 2, none⟩ = some (.slice p4.ae E.length p4.ce) := hdk.out.cell 2
          rw [es] at d1
          rw [ee] at d2
          have hsk := hcs k hlt
          have hek := hce k (by omega)
          have hgood : Good T4 S[k] E[k] := HREC.out k _ _ (List.getElem?_eq_getElem hlt) (List.getElem?_eq_getElem (by omega))
          have HG : Hid (∀ w' : World, w'.heap = wr.heap → Calls Try.prog 10 #[.slice p4.ao T4.length p4.co, .int .i64 S[k]] w' fun e w'' => e = .returned (.int .i64 E[k]) ∧ w'' = w') :=
            fun w' hh => (zzEnd_of _ _ _ _ _ w' (hgood.calls _ _ _ w' (hdk.out.out.row.heap hh) (by omega))).mono fun _ _ q => ⟨q.1, q.2.symm⟩
          clear hcs hce hgood
          generalize S[k] = s0 at *
          generalize E[k] = e0 at *
          have i1 : (0 : Int) ≤ (k : Int) := by omega
          have i2 : (k : Int) < (S.length : Int) := by omega
          have i3 : (k : Int) < (E.length : Int) := by omega
          clear hEl
          go_wp2_with fail
          go_quiet ((go_at_call 10; exact Calls.quiet_of_same (HG.out _ rfl)))
          go_wp2
          go_roundw
          case rel => exact ⟨k + 1, by go_num, by omega, hdk.out.carry rfl, below_drewN hbk.out _⟩
          case measure => simp [intOf]; omega
        · go_wp2
          go_ret
          exact ⟨rfl, by rw [HDD.out]; exact hbk.out⟩
end Go.Proofs.Qxb6600588a.Base
