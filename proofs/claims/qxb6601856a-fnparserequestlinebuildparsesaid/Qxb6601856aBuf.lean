import Derived.Test.Qxb6601856aParse
import Derived.Maps.AppendAt
import Derived.Laws.AppendOwnNone
namespace Go.Proofs.Qxb6601856a.Base
open Go.RowKit
set_option linter.unusedVariables false
set_option linter.unusedSimpArgs false

/-- The block in which a slice lies. -/
def blk (ao : Option Addr) : Option Nat := ao.map Addr.block

theorem ownBlock_slice (ao : Option Addr) (n c : Nat) : (Value.slice ao n c).ownBlock = blk ao := by cases ao <;> rfl

/-- w' is w with new blocks and with writes to the block 'row' alone; what lay in 'row' lies now in 'row'' : the same, or a new one. -/
structure Grew (w w' : World) (row row' : Option Nat) : Prop where
  by' : w.grownBy w' row
  own : row' = row ∨ ∀ k, row' = some k → w.heap.size ≤ k

theorem Grew.refl (w : World) (row : Option Nat) : Grew w w row row := ⟨⟨rfl, rfl, rfl, Nat.le_refl _, fun _ _ _ => rfl⟩, .inl rfl⟩

theorem Grew.size {w w' : World} {row row' : Option Nat} (h : Grew w w' row row') : w.heap.size ≤ w'.heap.size := h.by'.size

theorem Grew.trans {w w1 w2 : World} {r r1 r2 : Option Nat} (h : Grew w w1 r r1) (k : Grew w1 w2 r1 r2) : Grew w w2 r r2 := by
  refine ⟨⟨k.by'.os.trans h.by'.os, k.by'.tape.trans h.by'.tape, k.by'.output.trans h.by'.output, Nat.le_trans h.size k.size, fun i hi hne => ?_⟩, ?_⟩
  · rw [k.by'.block i (Nat.lt_of_lt_of_le hi h.size) (fun e => ?_), h.by'.block i hi hne]
    rcases h.own with h1 | h1
    · exact hne (by rw [e, h1])
    · have := h1 i e.symm; omega
  · rcases k.own with k1 | k1
    · rw [k1]; exact h.own
    · right; intro i hi; exact Nat.le_trans h.size (k1 i hi)

theorem Grew.alloc (w : World) (o : Obj) (row : Option Nat) : Grew w (w.alloc o) row row := ⟨World.grownBy_alloc w o row, .inl rfl⟩

theorem Grew.below {w w' : World} {row row' : Option Nat} (h : Grew w w' row row') {B : Nat} (hB : B ≤ w.heap.size) (hr : ∀ k, row = some k → B ≤ k) : Below B w w' :=
  (Below.refl B w).grown h.by' hB hr

/-- A buffer of bytes of the call's own: n bytes, xs. -/
structure Buf (w : World) (B : Nat) (ao : Option Addr) (n cap : Nat) (xs : List Int) : Prop where
  own : w.ownsRow B 5 1 (.slice ao n cap) n (xs.map (Value.int .u8))
  wf : ∀ x ∈ xs, 0 ≤ x ∧ x < 256

theorem Buf.len {w : World} {B : Nat} {ao : Option Addr} {n cap : Nat} {xs : List Int} (h : Buf w B ao n cap xs) : xs.length = n := by have := h.own.1; simpa using this

theorem Buf.nil (w : World) (B : Nat) : Buf w B none 0 0 [] := ⟨World.ownsRow_nil w B 5 1, fun x hx => by cases hx⟩

theorem Buf.alloc {w : World} {B : Nat} {ao : Option Addr} {n cap : Nat} {xs : List Int} (h : Buf w B ao n cap xs) (o : Obj) : Buf (w.alloc o) B ao n cap xs := ⟨h.own.alloc o, h.wf⟩

theorem Buf.base {w : World} {B : Nat} {ao : Option Addr} {n cap : Nat} {xs : List Int} (h : Buf w B ao n cap xs) : ∀ k, blk ao = some k → B ≤ k := by
  intro k hk
  exact (h.own.lt k (by rw [ownBlock_slice]; exact hk)).1

/-- A buffer reads as a row. -/
theorem Buf.row {w : World} {B : Nat} {ao : Option Addr} {n cap : Nat} {xs : List Int} (h : Buf w B ao n cap xs) : Row w ao n xs where
  len := h.len
  cell := fun x hx i hi => by
    subst hx
    have hc := h.own.cells (g := x.block) (by simp [Value.ownBlock])
    have hx0 : x = ⟨x.block, 0, none⟩ := by
      rcases h.own.2 with ⟨e, _⟩ | ⟨g, c', cur, e, _⟩
      · cases e
      · simp at e; rw [e.1]
    rw [hx0]
    have hl := h.len
    exact hc i _ (by rw [List.getElem?_map, List.getElem?_eq_getElem (by omega)]; simp [show i < xs.length by omega])
  zero := fun hx => by
    subst hx
    rcases h.own.2 with ⟨_, e⟩ | ⟨g, c', cur, e, _⟩
    · exact e
    · cases e
  wf := h.wf


/-- 'out = append(out, ys...)' on a buffer. -/
theorem app {ops : Array Oper} {rest : List Oper} {o : Oper} {a : Act} {Q : Exit → Act → World → Prop} {w : World} (hgd : o.guard = none) (s x : Operand)
    (ho : o.op = .call { callee := .builtin .append, args := #[s, x], argTypes := #[22, 22] })
    (B : Nat) (ao : Option Addr) (n cap : Nat) (xs : List Int) (hs : a.eval s = .slice ao n cap) (hb : Buf w B ao n cap xs)
    (ad : Addr) (m c : Nat) (ys : List Int) (hx : a.eval x = .slice (some ad) m c) (hl : ys.length = m) (hnews : ∀ j, (hj : j < ys.length) → w.cell? (ad.add j) = some (.int .u8 ys[j]))
    (hwf : ∀ y ∈ ys, 0 ≤ y ∧ y < 256) (hn : n + m ≤ 1099511627776) (hbase : B ≤ w.heap.size)
    (h : ∀ ao' cap' w', Buf w' B ao' (n + m) cap' (xs ++ ys) → Grew w w' (blk ao) (blk ao') → wpList Try.prog ops Q rest (a.put o.dst (.slice ao' (n + m) cap')) w') :
    wpList Try.prog ops Q (o :: rest) a w := by
  obtain ⟨i0, hi, hz0, hz1, hz2⟩ := info_parts info5
  obtain ⟨v', w', hr, h2, h3, _, h5⟩ := run_append_own_at (P := Try.prog) w B 22 o.type 5 i0 (.int .u8 0) 1 1 Try.underlying22 hi hz0 hz1 hz2 rfl (by decide) (.slice ao n cap) n (xs.map (Value.int .u8)) hb.own ad m c (ys.map (Value.int .u8))
    (by simp [hl]) (fun j u hj => by
      rw [List.getElem?_map] at hj
      by_cases hjl : j < ys.length
      · rw [List.getElem?_eq_getElem hjl] at hj
        simp at hj
        rw [hnews j hjl, hj]
      · rw [List.getElem?_eq_none (by omega)] at hj
        simp at hj) (fun u hu => by simp at hu; obtain ⟨y, _, rfl⟩ := hu; rfl) (by unfold maxLen; omega) (by omega) hbase
  rw [← List.map_append] at h2
  have hv : ∃ ao' cap', v' = .slice ao' (n + m) cap' := by
    rcases h2.2 with ⟨e, e0⟩ | ⟨g, c', cur, e, _⟩
    · exact ⟨none, 0, by rw [e, e0]⟩
    · exact ⟨_, _, e⟩
  obtain ⟨ao', cap', rfl⟩ := hv
  rw [ownBlock_slice] at h3
  rw [ownBlock_slice, ownBlock_slice] at h5
  have hb' : Buf w' B ao' (n + m) cap' (xs ++ ys) := ⟨h2, fun y hy => by
    rcases List.mem_append.1 hy with hy | hy
    · exact hb.wf y hy
    · exact hwf y hy⟩
  have hg : Grew w w' (blk ao) (blk ao') := ⟨h3, by
    rcases h5 with h5 | h5
    · exact .inl h5
    · right; intro k hk; rw [h5] at hk; cases hk; exact Nat.le_refl _⟩
  refine wpList_plain hgd fun K hK => ?_
  unfold Oper.wp execOp
  simp only [ho, resolve, invoke, builtin, Sem.run_bind, Sem.run_pure, Result.andThen_ok, List.map_toArray, List.map_cons, List.map_nil, hs, hx, hr]
  exact hK _ _ (h ao' cap' w' hb' hg)

/-- .. where nothing is appended: nil. -/
theorem app_none {ops : Array Oper} {rest : List Oper} {o : Oper} {a : Act} {Q : Exit → Act → World → Prop} {w : World} (hgd : o.guard = none) (s x : Operand)
    (ho : o.op = .call { callee := .builtin .append, args := #[s, x], argTypes := #[22, 22] })
    (B : Nat) (ao : Option Addr) (n cap : Nat) (xs : List Int) (hs : a.eval s = .slice ao n cap) (hb : Buf w B ao n cap xs) (hx : a.eval x = .slice none 0 0)
    (h : wpList Try.prog ops Q rest (a.put o.dst (.slice ao n cap)) w) : wpList Try.prog ops Q (o :: rest) a w := by
  obtain ⟨i0, hi, hz0, hz1, hz2⟩ := info_parts info5
  exact wpList_append_own_none hgd s x 22 ho B 5 i0 1 Try.underlying22 hi (.slice ao n cap) n _ hs hb.own hx h

/-- 'out = append(out, ys...)', ys a slice that came in, nil or not. -/
theorem app_row {ops : Array Oper} {rest : List Oper} {o : Oper} {a : Act} {Q : Exit → Act → World → Prop} {w : World} (hgd : o.guard = none) (s x : Operand)
    (ho : o.op = .call { callee := .builtin .append, args := #[s, x], argTypes := #[22, 22] })
    (B : Nat) (ao : Option Addr) (n cap : Nat) (xs : List Int) (hs : a.eval s = .slice ao n cap) (hb : Buf w B ao n cap xs)
    (ad : Option Addr) (m c : Nat) (ys : List Int) (hx : a.eval x = .slice ad m c) (hr : Row w ad m ys) (hc : ad = none → c = 0)
    (hn : n + m ≤ 1099511627776) (hbase : B ≤ w.heap.size)
    (h : ∀ ao' cap' w', Buf w' B ao' (n + m) cap' (xs ++ ys) → Grew w w' (blk ao) (blk ao') → wpList Try.prog ops Q rest (a.put o.dst (.slice ao' (n + m) cap')) w') :
    wpList Try.prog ops Q (o :: rest) a w := by
  cases ad with
  | none =>
    have h0 := hr.zero rfl
    have hc0 := hc rfl
    subst h0
    subst hc0
    have hy : ys = [] := List.eq_nil_of_length_eq_zero hr.len
    subst hy
    refine app_none hgd s x ho B ao n cap xs hs hb hx ?_
    have := h ao cap w (by simpa using hb) (Grew.refl _ _)
    simpa using this
  | some ad =>
    refine app hgd s x ho B ao n cap xs hs hb ad m c ys hx hr.len (fun j hj => ?_) hr.wf hn hbase h
    have hl := hr.len
    rw [hr.cell ad rfl j (by omega), getD_getElem ys j hj]

/-- 'make([]byte, 0, k)'. -/
theorem Buf.made (w : World) (B k : Nat) (hB : B ≤ w.heap.size) (hk : k ≤ maxLen) : Buf (w.alloc (.cells (madeCells #[.int .u8 0] k) 5)) B (some ⟨w.heap.size, 0, none⟩) 0 k [] :=
  ⟨World.ownsRow_made w _ k hB hk (by rw [← Array.length_toList, toList_madeCells_one]; simp), fun x hx => by cases hx⟩

/-- Where a buffer that is not empty lies. -/
theorem Buf.spot {w : World} {B : Nat} {ao : Option Addr} {n cap : Nat} {xs : List Int} (h : Buf w B ao n cap xs) (hp : 0 < n) : ∃ g, ao = some ⟨g, 0, none⟩ ∧ n ≤ cap ∧ cap ≤ maxLen := by
  rcases h.own.2 with ⟨e, e0⟩ | ⟨g, c', cur, e, _, _, h1, h2, _⟩
  · omega
  · simp at e
    obtain ⟨rfl, rfl⟩ := e
    exact ⟨g, rfl, h1, h2⟩

end Go.Proofs.Qxb6601856a.Base
