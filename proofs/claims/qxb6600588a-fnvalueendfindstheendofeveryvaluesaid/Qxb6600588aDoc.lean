import Derived.Test.Qxb6600588aBuf
import Derived.Test.Qxb6600588aScalar
import Derived.OneCell
import Derived.Lib.AppendStr
namespace Go.Proofs.Qxb6600588a.Base
open Go.RowKit
set_option linter.unusedVariables false
set_option linter.unusedSimpArgs false

/-! ### appends at an operation -/

/-- A row of ints of the call's own. -/
def IBuf (w : World) (B : Nat) (ao : Option Addr) (n cap : Nat) (xs : List Int) : Prop := w.ownsRow B 3 1 (.slice ao n cap) n (xs.map (Value.int .i64))

theorem IBuf.len {w : World} {B : Nat} {ao : Option Addr} {n cap : Nat} {xs : List Int} (h : IBuf w B ao n cap xs) : xs.length = n := by have := h.1; simpa using this

theorem info3 : (Try.prog.info? 3).map (fun i => (i.zero, i.size, i.bytes)) = some (some (.int .i64 0), 1, 8) := by kernel_rfl

theorem wp_appI {o : Oper} {a : Act} {K : Act → World → Prop} {Q : Exit → Act → World → Prop} {w : World} (s x : Operand)
    (ho : o.op = .call { callee := .builtin .append, args := #[s, x], argTypes := #[27, 27] })
    (B : Nat) (ao : Option Addr) (n cap : Nat) (xs : List Int) (hs : a.eval s = .slice ao n cap) (hb : IBuf w B ao n cap xs)
    (ad : Addr) (c : Nat) (y : Int) (hx : a.eval x = .slice (some ad) 1 c) (hy : w.cell? ad = some (.int .i64 y))
    (hn : n + 1 ≤ 1099511627776) (hbase : B ≤ w.heap.size)
    (h : ∀ ao' cap' w', IBuf w' B ao' (n + 1) cap' (xs ++ [y]) → Grew w w' (blk ao) (blk ao') → K (a.put o.dst (.slice ao' (n + 1) cap')) w') :
    o.wp Try.prog a w K Q := by
  obtain ⟨i0, hi, hz0, hz1, hz2⟩ := info_parts info3
  obtain ⟨v', w', hr, h2, h3, _, h5⟩ := run_append_own_at (P := Try.prog) w B 27 o.type 3 i0 (.int .i64 0) 1 8 Try.underlying27 hi hz0 hz1 hz2 rfl (by decide) (.slice ao n cap) n (xs.map (Value.int .i64)) hb ad 1 c [.int .i64 y]
    (by simp) (fun j u hj => by
      match j, hj with
      | 0, hj => simp at hj; subst hj; simpa [Addr.add] using hy) (fun u hu => by simp at hu; subst hu; rfl) (by unfold maxLen; omega) (by omega) hbase
  have e1 : xs.map (Value.int .i64) ++ [.int .i64 y] = (xs ++ [y]).map (Value.int .i64) := by simp
  rw [e1] at h2
  have hv : ∃ ao' cap', v' = .slice ao' (n + 1) cap' := by
    rcases h2.2 with ⟨e, e0⟩ | ⟨g, c', cur, e, _⟩
    · exact ⟨none, 0, by rw [e, e0]⟩
    · exact ⟨_, _, e⟩
  obtain ⟨ao', cap', rfl⟩ := hv
  rw [ownBlock_slice] at h3
  rw [ownBlock_slice, ownBlock_slice] at h5
  have hg : Grew w w' (blk ao) (blk ao') := ⟨h3, by
    rcases h5 with h5 | h5
    · exact .inl h5
    · right; intro k hk; rw [h5] at hk; cases hk; exact Nat.le_refl _⟩
  unfold Oper.wp execOp
  simp only [ho, resolve, invoke, builtin, Sem.run_bind, Sem.run_pure, Result.andThen_ok, List.map_toArray, List.map_cons, List.map_nil, hs, hx, hr]
  exact h ao' cap' w' h2 hg

/-- At a step of a region that draws its order. -/
theorem step_appI {ops : Array Oper} {o : Oper} {a : Act} {K : Act → World → Prop} {Q : Exit → Act → World → Prop} {E : Prop} {w : World} (hgd : o.guard = none) (s x : Operand)
    (ho : o.op = .call { callee := .builtin .append, args := #[s, x], argTypes := #[27, 27] })
    (B : Nat) (ao : Option Addr) (n cap : Nat) (xs : List Int) (hs : a.eval s = .slice ao n cap) (hb : IBuf w B ao n cap xs)
    (ad : Addr) (c : Nat) (y : Int) (hx : a.eval x = .slice (some ad) 1 c) (hy : w.cell? ad = some (.int .i64 y))
    (hn : n + 1 ≤ 1099511627776) (hbase : B ≤ w.heap.size)
    (h : ∀ ao' cap' w', IBuf w' B ao' (n + 1) cap' (xs ++ [y]) → Grew w w' (blk ao) (blk ao') → K (a.put o.dst (.slice ao' (n + 1) cap')) w') :
    if Region.wanted o (yielded ops a.tmps) = true then Oper.wp Try.prog o a w K Q else E := by
  have hw : Region.wanted o (yielded ops a.tmps) = true := by simp [Region.wanted, hgd]
  rw [if_pos hw]
  exact wp_appI s x ho B ao n cap xs hs hb ad c y hx hy hn hbase h

theorem wp_app1 {o : Oper} {a : Act} {K : Act → World → Prop} {Q : Exit → Act → World → Prop} {w : World} (s x : Operand)
    (ho : o.op = .call { callee := .builtin .append, args := #[s, x], argTypes := #[22, 22] })
    (B : Nat) (ao : Option Addr) (n cap : Nat) (xs : List Int) (hs : a.eval s = .slice ao n cap) (hb : Buf w B ao n cap xs)
    (ad : Addr) (c : Nat) (y : Int) (hx : a.eval x = .slice (some ad) 1 c) (hy : w.cell? ad = some (.int .u8 y)) (hwf : 0 ≤ y ∧ y < 256)
    (hn : n + 1 ≤ 1099511627776) (hbase : B ≤ w.heap.size)
    (h : ∀ ao' cap' w', Buf w' B ao' (n + 1) cap' (xs ++ [y]) → Grew w w' (blk ao) (blk ao') → K (a.put o.dst (.slice ao' (n + 1) cap')) w') :
    o.wp Try.prog a w K Q := by
  obtain ⟨i0, hi, hz0, hz1, hz2⟩ := info_parts info5
  obtain ⟨v', w', hr, h2, h3, _, h5⟩ := run_append_own_at (P := Try.prog) w B 22 o.type 5 i0 (.int .u8 0) 1 1 Try.underlying22 hi hz0 hz1 hz2 rfl (by decide) (.slice ao n cap) n (xs.map (Value.int .u8)) hb.own ad 1 c [.int .u8 y]
    (by simp) (fun j u hj => by
      match j, hj with
      | 0, hj => simp at hj; subst hj; simpa [Addr.add] using hy) (fun u hu => by simp at hu; subst hu; rfl) (by unfold maxLen; omega) (by omega) hbase
  have e1 : xs.map (Value.int .u8) ++ [.int .u8 y] = (xs ++ [y]).map (Value.int .u8) := by simp
  rw [e1] at h2
  have hv : ∃ ao' cap', v' = .slice ao' (n + 1) cap' := by
    rcases h2.2 with ⟨e, e0⟩ | ⟨g, c', cur, e, _⟩
    · exact ⟨none, 0, by rw [e, e0]⟩
    · exact ⟨_, _, e⟩
  obtain ⟨ao', cap', rfl⟩ := hv
  rw [ownBlock_slice] at h3
  rw [ownBlock_slice, ownBlock_slice] at h5
  have hg : Grew w w' (blk ao) (blk ao') := ⟨h3, by
    rcases h5 with h5 | h5
    · exact .inl h5
    · right; intro k hk; rw [h5] at hk; cases hk; exact Nat.le_refl _⟩
  unfold Oper.wp execOp
  simp only [ho, resolve, invoke, builtin, Sem.run_bind, Sem.run_pure, Result.andThen_ok, List.map_toArray, List.map_cons, List.map_nil, hs, hx, hr]
  exact h ao' cap' w' ⟨h2, fun z hz => by
    rcases List.mem_append.1 hz with hz | hz
    · exact hb.wf z hz
    · simp at hz; subst hz; exact hwf⟩ hg

theorem step_app1 {ops : Array Oper} {o : Oper} {a : Act} {K : Act → World → Prop} {Q : Exit → Act → World → Prop} {E : Prop} {w : World} (hgd : o.guard = none) (s x : Operand)
    (ho : o.op = .call { callee := .builtin .append, args := #[s, x], argTypes := #[22, 22] })
    (B : Nat) (ao : Option Addr) (n cap : Nat) (xs : List Int) (hs : a.eval s = .slice ao n cap) (hb : Buf w B ao n cap xs)
    (ad : Addr) (c : Nat) (y : Int) (hx : a.eval x = .slice (some ad) 1 c) (hy : w.cell? ad = some (.int .u8 y)) (hwf : 0 ≤ y ∧ y < 256)
    (hn : n + 1 ≤ 1099511627776) (hbase : B ≤ w.heap.size)
    (h : ∀ ao' cap' w', Buf w' B ao' (n + 1) cap' (xs ++ [y]) → Grew w w' (blk ao) (blk ao') → K (a.put o.dst (.slice ao' (n + 1) cap')) w') :
    if Region.wanted o (yielded ops a.tmps) = true then Oper.wp Try.prog o a w K Q else E := by
  have hw : Region.wanted o (yielded ops a.tmps) = true := by simp [Region.wanted, hgd]
  rw [if_pos hw]
  exact wp_app1 s x ho B ao n cap xs hs hb ad c y hx hy hwf hn hbase h

/-- A string's bytes as numbers. -/
def strInts (s : ByteArray) : List Int := s.data.toList.map fun b => (b.toNat : Int)

theorem strInts_length (s : ByteArray) : (strInts s).length = s.size := by
  rw [strInts, List.length_map, Array.length_toList]
  rfl

/-- 'append(out, s...)', s a string that is not empty. -/
theorem app_str {ops : Array Oper} {rest : List Oper} {o : Oper} {a : Act} {Q : Exit → Act → World → Prop} {w : World} (hgd : o.guard = none) (sl x : Operand)
    (ho : o.op = .call { callee := .builtin .append, args := #[sl, x], argTypes := #[22, 9] })
    (B : Nat) (ao : Option Addr) (n cap : Nat) (xs : List Int) (hs : a.eval sl = .slice ao n cap) (hb : Buf w B ao n cap xs)
    (s : ByteArray) (hx : a.eval x = .string s) (hpos : 0 < s.size) (hn : n + s.size ≤ 1099511627776) (hbase : B ≤ w.heap.size)
    (h : ∀ ao' cap' w', Buf w' B ao' (n + s.size) cap' (xs ++ strInts s) → Grew w w' (blk ao) (blk ao') → wpList Try.prog ops Q rest (a.put o.dst (.slice ao' (n + s.size) cap')) w') :
    wpList Try.prog ops Q (o :: rest) a w := by
  obtain ⟨i0, hi, hz0, hz1, hz2⟩ := info_parts info5
  obtain ⟨v', w', hr, h2, h3, _⟩ := Lib.run_append_own_string (P := Try.prog) w B 22 9 o.type 5 i0 Try.underlying22 Try.underlying9 hi hz0 hz1 hz2 (.slice ao n cap) n (xs.map (Value.int .u8)) hb.own s (by unfold maxLen; omega) (by omega) hbase
  have e1 : xs.map (Value.int .u8) ++ Lib.strCells s = (xs ++ strInts s).map (Value.int .u8) := by simp [Lib.strCells, strInts]
  rw [e1] at h2
  have h5 : v'.ownBlock = blk ao ∨ v'.ownBlock = some w.heap.size := by
    rcases hb.own.2 with ⟨e, e0⟩ | ⟨g, c', cur, e, hbg, hg, hnc, hcm, hcs, htake⟩
    · simp only [Value.slice.injEq] at e
      obtain ⟨rfl, rfl, rfl⟩ := e
      have q := run_append_nil_string (P := Try.prog) w 22 9 o.type 5 i0 _ Try.underlying22 Try.underlying9 hi hz0 s hpos (by omega) (by rw [hz2]; omega)
      rw [q] at hr
      injection hr with hr1 hr2
      right; rw [← hr1]; rfl
    · simp only [Value.slice.injEq, true_and] at e
      obtain ⟨rfl, rfl⟩ := e
      by_cases hroom : n + s.size ≤ cap
      · have q := Lib.run_append_room_string (P := Try.prog) w 22 9 o.type 5 i0 Try.underlying22 Try.underlying9 hi hz1 g n cap cur hg s hroom (by omega)
        rw [q] at hr
        injection hr with hr1 hr2
        left; rw [← hr1]; rfl
      · have q := Lib.run_append_grow_string (P := Try.prog) w 22 9 o.type 5 i0 _ Try.underlying22 Try.underlying9 hi hz0 ⟨g, 0, none⟩ n cap _ (by rw [hz1]; exact hb.own.1) (hb.own.cells (g := g) rfl) s (by omega) (by omega) (by rw [hz2]; exact growslice_fits (by omega) (by omega))
        rw [q] at hr
        injection hr with hr1 hr2
        right; rw [← hr1]; rfl
  have hv : ∃ ao' cap', v' = .slice ao' (n + s.size) cap' := by
    rcases h2.2 with ⟨e, e0⟩ | ⟨g, c', cur, e, _⟩
    · exact ⟨none, 0, by rw [e, e0]⟩
    · exact ⟨_, _, e⟩
  obtain ⟨ao', cap', rfl⟩ := hv
  rw [ownBlock_slice] at h3 h5
  have hg : Grew w w' (blk ao) (blk ao') := ⟨h3, by
    rcases h5 with h5 | h5
    · exact .inl h5
    · right; intro k hk; rw [h5] at hk; cases hk; exact Nat.le_refl _⟩
  refine wpList_plain hgd fun K hK => ?_
  unfold Oper.wp execOp
  simp only [ho, resolve, invoke, builtin, Sem.run_bind, Sem.run_pure, Result.andThen_ok, List.map_toArray, List.map_cons, List.map_nil, hs, hx, hr]
  exact hK _ _ (h ao' cap' w' ⟨h2, fun z hz => by
    rcases List.mem_append.1 hz with hz | hz
    · exact hb.wf z hz
    · simp only [strInts, List.mem_map] at hz
      obtain ⟨b, _, rfl⟩ := hz
      have := b.toNat_lt
      omega⟩ hg)

/-! ### the document in memory -/

theorem Grew.drew (w : World) (row : Option Nat) : Grew w w.drew row row := ⟨⟨rfl, rfl, rfl, Nat.le_refl _, fun _ _ _ => rfl⟩, .inl rfl⟩

theorem own_ne {w : World} {B : Nat} {e t D size n : Nat} {v : Value} {xs : List Value} {cs : Array Value} {fr : Nat × Nat} (h : w.ownsRow B e size v n xs) (hD : w.heap[D]? = some (.cells cs t fr)) (hne : t ≠ e) : v.ownBlock ≠ some D := by
  intro hv
  rcases h.2 with ⟨rfl, _⟩ | ⟨g, c', cur, rfl, _, hg, _⟩
  · cases hv
  · simp only [Value.ownBlock, Option.some.injEq] at hv
    subst hv
    rw [hD] at hg
    simp only [Option.some.injEq, Obj.cells.injEq] at hg
    exact hne hg.2.1

theorem own_apart {w : World} {B B' : Nat} {e e' size size' n n' : Nat} {v v' : Value} {xs xs' : List Value} (h : w.ownsRow B e size v n xs) (h' : w.ownsRow B' e' size' v' n' xs') (hne : e' ≠ e) : v.ownBlock = none ∨ v.ownBlock ≠ v'.ownBlock := by
  rcases h'.2 with ⟨rfl, _⟩ | ⟨g, c', cur, rfl, _, hg, _⟩
  · cases hv : v.ownBlock with
    | none => exact .inl rfl
    | some k => right; simp [Value.ownBlock]
  · right
    exact own_ne h hg hne

/-- Where the four slices of a document lie. -/
structure Ad where
  ao : Option Addr
  co : Nat
  as' : Option Addr
  cs : Nat
  ae : Option Addr
  ce : Nat
  ak : Option Addr
  nk : Nat
  ck : Nat

/-- The document's eight fields. -/
def fields (p : Ad) (no ns ne : Nat) (pos si ni wi : Nat) : Array Value :=
  #[.slice p.ao no p.co, .slice p.as' ns p.cs, .slice p.ae ne p.ce, .slice p.ak p.nk p.ck, .int .i64 pos, .int .i64 si, .int .i64 ni, .int .i64 wi]

structure Doc (w : World) (D : Nat) (p : Ad) (out starts ends kinds : List Int) (pos si ni wi : Nat) : Prop where
  heap : w.heap[D]? = some (.cells (fields p out.length starts.length ends.length pos si ni wi) 29 (0, 0))
  out : Buf w D p.ao out.length p.co out
  sts : IBuf w D p.as' starts.length p.cs starts
  ens : IBuf w D p.ae ends.length p.ce ends
  kin : Buf w D p.ak p.nk p.ck kinds
  dk : blk p.ao = none ∨ blk p.ao ≠ blk p.ak
  dk' : blk p.ak = none ∨ blk p.ak ≠ blk p.ao
  de : blk p.as' = none ∨ blk p.as' ≠ blk p.ae
  de' : blk p.ae = none ∨ blk p.ae ≠ blk p.as'

section
variable {w w1 : World} {D : Nat} {p : Ad} {out starts ends kinds : List Int} {pos si ni wi : Nat}

theorem Doc.lt (h : Doc w D p out starts ends kinds pos si ni wi) : D < w.heap.size := (Array.getElem?_eq_some_iff.1 h.heap).1

theorem Doc.cell (h : Doc w D p out starts ends kinds pos si ni wi) (j : Nat) : w.cell? ⟨D, j, none⟩ = (fields p out.length starts.length ends.length pos si ni wi)[j]? :=
  cell_of_row w D j _ 29 (0, 0) h.heap

theorem Doc.frozen (h : Doc w D p out starts ends kinds pos si ni wi) (j : Nat) : w.frozen? ⟨D, j, none⟩ = false := frozen_of_row w D j _ 29 h.heap

theorem Doc.oD (h : Doc w D p out starts ends kinds pos si ni wi) : blk p.ao ≠ some D := by have := own_ne h.out.own h.heap (by decide); rwa [ownBlock_slice] at this
theorem Doc.sD (h : Doc w D p out starts ends kinds pos si ni wi) : blk p.as' ≠ some D := by have := own_ne h.sts h.heap (by decide); rwa [ownBlock_slice] at this
theorem Doc.eD (h : Doc w D p out starts ends kinds pos si ni wi) : blk p.ae ≠ some D := by have := own_ne h.ens h.heap (by decide); rwa [ownBlock_slice] at this
theorem Doc.kD (h : Doc w D p out starts ends kinds pos si ni wi) : blk p.ak ≠ some D := by have := own_ne h.kin.own h.heap (by decide); rwa [ownBlock_slice] at this

/-- A block that some row 'r' of the document is not, while the row 'row' grows: in the new world too. -/
theorem Grew.apart {row row' r : Option Nat} (g : Grew w w1 row row') (hr : ∀ k, r = some k → k < w.heap.size) (h : r = none ∨ r ≠ row) : r = none ∨ r ≠ row' := by
  rcases h with h | h
  · exact .inl h
  · cases r with
    | none => exact .inl rfl
    | some k =>
      right
      intro e
      rcases g.own with g1 | g1
      · exact h (by rw [e, g1])
      · have := g1 k e.symm
        have := hr k rfl
        omega

theorem own_lt {B e size n cap : Nat} {ao : Option Addr} {xs : List Value} (h : w.ownsRow B e size (.slice ao n cap) n xs) : ∀ k, blk ao = some k → k < w.heap.size := fun k hk => (h.lt k (by rw [ownBlock_slice]; exact hk)).2

theorem own_kept {B e size n cap : Nat} {ao : Option Addr} {xs : List Value} {row row' : Option Nat} (h : w.ownsRow B e size (.slice ao n cap) n xs) (g : Grew w w1 row row') (hne : blk ao = none ∨ blk ao ≠ row) : w1.ownsRow B e size (.slice ao n cap) n xs :=
  h.kept g.by' (by rw [ownBlock_slice]; exact hne)

theorem own_set {B e size n cap : Nat} {ao : Option Addr} {xs : List Value} (h : w.ownsRow B e size (.slice ao n cap) n xs) (hne : blk ao ≠ some D) (j : Nat) (u : Value) : (w.setCell ⟨D, j, none⟩ u).ownsRow B e size (.slice ao n cap) n xs :=
  ownsRow_setCell_other h (by rw [ownBlock_slice]; exact hne) u

theorem Buf.kept {B n cap : Nat} {ao : Option Addr} {xs : List Int} {row row' : Option Nat} (h : Buf w B ao n cap xs) (g : Grew w w1 row row') (hne : blk ao = none ∨ blk ao ≠ row) : Buf w1 B ao n cap xs := ⟨own_kept h.own g hne, h.wf⟩
theorem Buf.set {B n cap : Nat} {ao : Option Addr} {xs : List Int} (h : Buf w B ao n cap xs) (hne : blk ao ≠ some D) (j : Nat) (u : Value) : Buf (w.setCell ⟨D, j, none⟩ u) B ao n cap xs := ⟨own_set h.own hne j u, h.wf⟩

/-- A whole document, its memory otherwise the same. -/
theorem Doc.carry (h : Doc w D p out starts ends kinds pos si ni wi) (hh : w1.heap = w.heap) : Doc w1 D p out starts ends kinds pos si ni wi := by
  have o : ∀ {B e size n : Nat} {v : Value} {xs : List Value}, w.ownsRow B e size v n xs → w1.ownsRow B e size v n xs := by
    intro B e size n v xs q
    refine ⟨q.1, ?_⟩
    rw [hh]
    exact q.2
  exact ⟨by rw [hh]; exact h.heap, ⟨o h.out.own, h.out.wf⟩, o h.sts, o h.ens, ⟨o h.kin.own, h.kin.wf⟩, h.dk, h.dk', h.de, h.de'⟩

/-- New blocks turn nothing of it. -/
theorem Doc.grow (h : Doc w D p out starts ends kinds pos si ni wi) (g : Grew w w1 none none) : Doc w1 D p out starts ends kinds pos si ni wi := by
  have nn : ∀ r : Option Nat, r = none ∨ r ≠ none := fun r => by cases r <;> simp
  exact ⟨by rw [g.by'.block D h.lt (by simp)]; exact h.heap, h.out.kept g (nn _), own_kept h.sts g (nn _), own_kept h.ens g (nn _), h.kin.kept g (nn _), h.dk, h.dk', h.de, h.de'⟩

/-- 'd.out = ..' : the text has grown in its own row. -/
theorem Doc.setOut (h : Doc w D p out starts ends kinds pos si ni wi) {ao' : Option Addr} {n' co' : Nat} {out' : List Int} (g : Grew w w1 (blk p.ao) (blk ao')) (b : Buf w1 D ao' n' co' out') :
    Doc (w1.setCell ⟨D, 0, none⟩ (.slice ao' n' co')) D { p with ao := ao', co := co' } out' starts ends kinds pos si ni wi := by
  have hl := b.len
  subst hl
  have hD : w1.heap[D]? = some (.cells (fields p out.length starts.length ends.length pos si ni wi) 29 (0, 0)) := by rw [g.by'.block D h.lt (Ne.symm h.oD)]; exact h.heap
  have o1 := own_apart h.sts h.out.own (by decide)
  have o2 := own_apart h.ens h.out.own (by decide)
  rw [ownBlock_slice, ownBlock_slice] at o1 o2
  have bD : blk ao' ≠ some D := by have := own_ne b.own hD (by decide); rwa [ownBlock_slice] at this
  have k1 : blk p.ak = none ∨ blk p.ak ≠ blk ao' := g.apart (own_lt h.kin.own) h.dk'
  refine ⟨?_, b.set bD _ _, own_set (own_kept h.sts g o1) h.sD _ _, own_set (own_kept h.ens g o2) h.eD _ _, (h.kin.kept g h.dk').set h.kD _ _, ?_, k1, h.de, h.de'⟩
  · rw [heap_setCell_same w1 D 0 _ 29 _ hD]
    rfl
  · rcases k1 with k | k
    · by_cases e : blk ao' = none
      · exact .inl e
      · right; show blk ao' ≠ blk p.ak; rw [k]; exact e
    · exact .inr (Ne.symm k)

/-- 'd.starts = ..' -/
theorem Doc.setStarts (h : Doc w D p out starts ends kinds pos si ni wi) {ao' : Option Addr} {n' co' : Nat} {starts' : List Int} (g : Grew w w1 (blk p.as') (blk ao')) (b : IBuf w1 D ao' n' co' starts') :
    Doc (w1.setCell ⟨D, 1, none⟩ (.slice ao' n' co')) D { p with as' := ao', cs := co' } out starts' ends kinds pos si ni wi := by
  have hl := b.len
  subst hl
  have hD : w1.heap[D]? = some (.cells (fields p out.length starts.length ends.length pos si ni wi) 29 (0, 0)) := by rw [g.by'.block D h.lt (Ne.symm h.sD)]; exact h.heap
  have o1 := own_apart h.out.own h.sts (by decide)
  have o2 := own_apart h.kin.own h.sts (by decide)
  rw [ownBlock_slice, ownBlock_slice] at o1 o2
  have bD : blk ao' ≠ some D := by have := own_ne b hD (by decide); rwa [ownBlock_slice] at this
  have k1 : blk p.ae = none ∨ blk p.ae ≠ blk ao' := g.apart (own_lt h.ens) h.de'
  refine ⟨?_, (h.out.kept g o1).set h.oD _ _, own_set b bD _ _, own_set (own_kept h.ens g h.de') h.eD _ _, (h.kin.kept g o2).set h.kD _ _, h.dk, h.dk', ?_, k1⟩
  · rw [heap_setCell_same w1 D 1 _ 29 _ hD]
    rfl
  · rcases k1 with k | k
    · by_cases e : blk ao' = none
      · exact .inl e
      · right; show blk ao' ≠ blk p.ae; rw [k]; exact e
    · exact .inr (Ne.symm k)

/-- 'd.ends = ..' -/
theorem Doc.setEnds (h : Doc w D p out starts ends kinds pos si ni wi) {ao' : Option Addr} {n' co' : Nat} {ends' : List Int} (g : Grew w w1 (blk p.ae) (blk ao')) (b : IBuf w1 D ao' n' co' ends') :
    Doc (w1.setCell ⟨D, 2, none⟩ (.slice ao' n' co')) D { p with ae := ao', ce := co' } out starts ends' kinds pos si ni wi := by
  have hl := b.len
  subst hl
  have hD : w1.heap[D]? = some (.cells (fields p out.length starts.length ends.length pos si ni wi) 29 (0, 0)) := by rw [g.by'.block D h.lt (Ne.symm h.eD)]; exact h.heap
  have o1 := own_apart h.out.own h.ens (by decide)
  have o2 := own_apart h.kin.own h.ens (by decide)
  rw [ownBlock_slice, ownBlock_slice] at o1 o2
  have bD : blk ao' ≠ some D := by have := own_ne b hD (by decide); rwa [ownBlock_slice] at this
  have k1 : blk p.as' = none ∨ blk p.as' ≠ blk ao' := g.apart (own_lt h.sts) h.de
  refine ⟨?_, (h.out.kept g o1).set h.oD _ _, own_set (own_kept h.sts g h.de) h.sD _ _, own_set b bD _ _, (h.kin.kept g o2).set h.kD _ _, h.dk, h.dk', k1, ?_⟩
  · rw [heap_setCell_same w1 D 2 _ 29 _ hD]
    rfl
  · rcases k1 with k | k
    · by_cases e : blk ao' = none
      · exact .inl e
      · right; show blk ao' ≠ blk p.as'; rw [k]; exact e
    · exact .inr (Ne.symm k)

/-- 'd.kinds = ..' -/
theorem Doc.setKinds (h : Doc w D p out starts ends kinds pos si ni wi) {ao' : Option Addr} {n' co' : Nat} {kinds' : List Int} (g : Grew w w1 (blk p.ak) (blk ao')) (b : Buf w1 D ao' n' co' kinds') :
    Doc (w1.setCell ⟨D, 3, none⟩ (.slice ao' n' co')) D { p with ak := ao', nk := n', ck := co' } out starts ends kinds' pos si ni wi := by
  have hD : w1.heap[D]? = some (.cells (fields p out.length starts.length ends.length pos si ni wi) 29 (0, 0)) := by rw [g.by'.block D h.lt (Ne.symm h.kD)]; exact h.heap
  have o1 := own_apart h.sts h.kin.own (by decide)
  have o2 := own_apart h.ens h.kin.own (by decide)
  rw [ownBlock_slice, ownBlock_slice] at o1 o2
  have bD : blk ao' ≠ some D := by have := own_ne b.own hD (by decide); rwa [ownBlock_slice] at this
  have k1 : blk p.ao = none ∨ blk p.ao ≠ blk ao' := g.apart (own_lt h.out.own) h.dk
  refine ⟨?_, (h.out.kept g h.dk).set h.oD _ _, own_set (own_kept h.sts g o1) h.sD _ _, own_set (own_kept h.ens g o2) h.eD _ _, b.set bD _ _, k1, ?_, h.de, h.de'⟩
  · rw [heap_setCell_same w1 D 3 _ 29 _ hD]
    rfl
  · rcases k1 with k | k
    · by_cases e : blk ao' = none
      · exact .inl e
      · right; show blk ao' ≠ blk p.ao; rw [k]; exact e
    · exact .inr (Ne.symm k)

theorem Doc.setField (h : Doc w D p out starts ends kinds pos si ni wi) (j : Nat) (u : Value) {pos' si' ni' wi' : Nat} (hf : (fields p out.length starts.length ends.length pos si ni wi).setIfInBounds j u = fields p out.length starts.length ends.length pos' si' ni' wi') :
    Doc (w.setCell ⟨D, j, none⟩ u) D p out starts ends kinds pos' si' ni' wi' := by
  refine ⟨?_, h.out.set h.oD _ _, own_set h.sts h.sD _ _, own_set h.ens h.eD _ _, h.kin.set h.kD _ _, h.dk, h.dk', h.de, h.de'⟩
  rw [heap_setCell_same w D j _ 29 _ h.heap, hf]

theorem Doc.setPos (h : Doc w D p out starts ends kinds pos si ni wi) (q : Nat) : Doc (w.setCell ⟨D, 4, none⟩ (.int .i64 q)) D p out starts ends kinds q si ni wi := h.setField 4 _ rfl
theorem Doc.setSi (h : Doc w D p out starts ends kinds pos si ni wi) (q : Nat) : Doc (w.setCell ⟨D, 5, none⟩ (.int .i64 q)) D p out starts ends kinds pos q ni wi := h.setField 5 _ rfl
theorem Doc.setNi (h : Doc w D p out starts ends kinds pos si ni wi) (q : Nat) : Doc (w.setCell ⟨D, 6, none⟩ (.int .i64 q)) D p out starts ends kinds pos si q wi := h.setField 6 _ rfl
theorem Doc.setWi (h : Doc w D p out starts ends kinds pos si ni wi) (q : Nat) : Doc (w.setCell ⟨D, 7, none⟩ (.int .i64 q)) D p out starts ends kinds pos si ni q := h.setField 7 _ rfl

/-- 'd.ends[k] = v' -/
theorem Doc.setEnd (h : Doc w D p out starts ends kinds pos si ni wi) (k : Nat) (hk : k < ends.length) (v : Int) :
    ∃ g cap, p.ae = some ⟨g, 0, none⟩ ∧ p.ce = cap ∧ ends.length ≤ cap ∧ w.cell? ⟨g, k, none⟩ = some (.int .i64 ends[k]) ∧ w.frozen? ⟨g, k, none⟩ = false ∧ D < g ∧ Doc (w.setCell ⟨g, k, none⟩ (.int .i64 v)) D p out starts (ends.set k v) kinds pos si ni wi := by
  rcases h.ens.2 with ⟨_, e0⟩ | ⟨g, c', cur, e, hbg, hg, hnc, hcm, hcs, htake⟩
  · omega
  · simp only [Value.slice.injEq, true_and] at e
    obtain ⟨e1, e2⟩ := e
    have hens : w.ownsRow D 3 1 (.slice (some ⟨g, 0, none⟩) ends.length c') ends.length (ends.map (Value.int .i64)) := by rw [← e1, ← e2]; exact h.ens
    have hgD : g ≠ D := fun q => h.eD (by rw [e1]; simp [blk, q])
    have hs := hens.stored k (.int .i64 v)
    have ne : ∀ r : Option Addr, (blk r = none ∨ blk r ≠ blk p.ae) → blk r ≠ some g := fun r hr => by
      rcases hr with hr | hr
      · rw [hr]; simp
      · rw [e1] at hr; exact hr
    have o1 := own_apart h.out.own h.ens (by decide)
    have o2 := own_apart h.kin.own h.ens (by decide)
    rw [ownBlock_slice, ownBlock_slice] at o1 o2
    refine ⟨g, c', e1, e2, hnc, ?_, hens.frozenAt k, by omega, ⟨?_, h.out.set (ne _ o1) _ _, own_set h.sts (ne _ h.de) _ _, ?_, h.kin.set (ne _ o2) _ _, h.dk, h.dk', h.de, h.de'⟩⟩
    · rw [hens.cellAt k (by omega), List.getElem?_map, List.getElem?_eq_getElem hk]; rfl
    · rw [heap_setCell_other w ⟨g, k, none⟩ D _ (Ne.symm hgD), List.length_set]
      exact h.heap
    · show World.ownsRow _ D 3 1 (.slice p.ae (ends.set k v).length p.ce) (ends.set k v).length ((ends.set k v).map (Value.int .i64))
      rw [e1, e2, List.length_set, List.map_set]
      exact hs.1
end
end Go.Proofs.Qxb6600588a.Base
