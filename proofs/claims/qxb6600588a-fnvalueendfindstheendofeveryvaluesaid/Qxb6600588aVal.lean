import Derived.Test.Qxb6600588aInner
import Derived.Test.Qxb6600588aStr
import Derived.Test.Qxb6600588aItoa
import Derived.Test.Qxb6600588aWs
namespace Go.Proofs.Qxb6600588a.Base
open Go.RowKit
set_option linter.unusedVariables false
set_option linter.unusedSimpArgs false

/-- The slice at address 'a', of length 'n', reads as n numbers of kind int64. -/
structure NRow (w : World) (a : Option Addr) (n : Nat) : Prop where
  cell : ∀ i, i < n → ∃ b off z, a = some ⟨b, off, none⟩ ∧ b < w.heap.size ∧ w.cell? ⟨b, off + i, none⟩ = some (.int .i64 z)

/-- What came in: the shape, the strings, the numbers, all older than the document. -/
structure Came (W : World) (D : Nat) (a : Option Addr) (n : Nat) (xs : List Int) (b : Option Addr) (m : Nat) (ss : List ByteArray) (c : Option Addr) (q : Nat) : Prop where
  base : W.heap.size = D
  shape : Row W a n xs
  strs : SRow W b m ss
  small : ∀ s ∈ ss, s.size ≤ 65536
  nums : NRow W c q
  lim : n ≤ 4096

/-- There is room for what is to come. -/
structure Fit (n lo ls pos si ni wi : Nat) : Prop where
  o : lo + 1000000 * (n - pos) ≤ 800000000000
  s : ls + 20 * (n - pos) ≤ 900000000
  i : si + 20 * (n - pos) ≤ 900000000
  m : ni + 20 * (n - pos) ≤ 900000000
  w : wi + 20 * (n - pos) ≤ 900000000

/-- What zzValue leaves where the shape was not used up. -/
def ValPost (w w' : World) (D n : Nat) (out starts ends : List Int) (pos si ni wi : Nat) : Prop :=
  ∃ V ts S E pos' si' ni' wi', DocX w' D (out ++ V) (starts ++ S) (ends ++ E) pos' si' ni' wi' ∧ Below D w w' ∧ Inner out Dl V ts S E ∧ pos < pos' ∧ pos' ≤ n ∧
    V.length + 400000 ≤ 1000000 * (pos' - pos) ∧ S.length + 10 ≤ 20 * (pos' - pos) ∧ si' + 10 ≤ si + 20 * (pos' - pos) ∧ ni' + 10 ≤ ni + 20 * (pos' - pos) ∧ wi' + 10 ≤ wi + 20 * (pos' - pos)

def ValSaid (W : World) (D : Nat) (a : Option Addr) (n ca : Nat) (b : Option Addr) (m cb : Nat) (c : Option Addr) (q cc : Nat) (w : World) (out starts ends : List Int) (pos si ni wi : Nat) : Prop :=
  Calls Try.prog 9 #[.pointer (some ⟨D, 0, none⟩), .slice a n ca, .slice b m cb, .slice c q cc] w fun e w' => e = .returned (.tuple #[]) ∧ ValPost w w' D n out starts ends pos si ni wi

/-- zzStr, whichever string comes. -/
theorem str_any {W : World} {D : Nat} {a : Option Addr} {n : Nat} {xs : List Int} {b : Option Addr} {m : Nat} {ss : List ByteArray} {c : Option Addr} {q : Nat} (hc : Came W D a n xs b m ss c q) (w : World) (cb : Nat) (mode : Int) (out starts ends : List Int) (pos si ni wi : Nat)
    (hB : Below D W w) (h : DocX w D out starts ends pos si ni wi) (hn : starts.length ≤ 1000000000) (ho : out.length ≤ 900000000000) (hsi : si ≤ 1000000000) :
    Calls Try.prog 19 #[.pointer (some ⟨D, 0, none⟩), .slice b m cb, .int .u8 mode] w fun e w' => e = .returned (.tuple #[]) ∧ ∃ body, okBody body = true ∧ body.length ≤ 6 * 65536 ∧
      DocX w' D (out ++ 34 :: (body ++ [34])) (starts ++ [(out.length : Int)]) (ends ++ [(out.length : Int) + ((body.length : Int) + 2)]) pos (si + 1) ni wi ∧ Below D w w' := by
  by_cases hlt : si < m
  · obtain ⟨bb, off, he, hbl, hcell⟩ := hc.strs.at (by omega)
    have hl := hc.strs.len
    have hsl : si < ss.length := by omega
    refine str_core w D b m cb mode ss[si] out starts ends pos si ni wi h hn ho (hc.small _ (List.getElem_mem hsl)) hsi (.inr ⟨hlt, bb, off, he, by rw [← hc.base]; exact hbl, ?_⟩)
    rw [hB.cell (by rw [← hc.base]; exact hbl)]
    exact hcell si hsl
  · exact str_core w D b m cb mode ⟨#[]⟩ out starts ends pos si ni wi h hn ho (by show 0 ≤ 65536; omega) hsi (.inl ⟨by omega, rfl⟩)

/-- The shape's next byte. -/
theorem Came.byte {W : World} {D : Nat} {a : Option Addr} {n : Nat} {xs : List Int} {b : Option Addr} {m : Nat} {ss : List ByteArray} {c : Option Addr} {q : Nat} (hc : Came W D a n xs b m ss c q) {w : World} (hB : Below D W w) {pos : Nat} (hp : pos < n) :
    ∃ ad off x, a = some ⟨ad, off, none⟩ ∧ ad < D ∧ w.cell? ⟨ad, off + pos, none⟩ = some (.int .u8 x) ∧ 0 ≤ x ∧ x < 256 := by
  obtain ⟨bb, off, he, hbl, hcell⟩ := hc.shape.at (by omega)
  have hl := hc.shape.len
  have hpl : pos < xs.length := by omega
  refine ⟨bb, off, xs[pos], he, by rw [← hc.base]; exact hbl, ?_, hc.shape.wf _ (List.getElem_mem hpl)⟩
  rw [hB.cell (by rw [← hc.base]; exact hbl)]
  exact hcell pos hpl

end Go.Proofs.Qxb6600588a.Base
