/-
  No cell of these rows narrows 'for every input' (looked for: loops, veiled, ifaces, maps, wideKeys, modest, calm, conditions, laid).
  DERIVED. THE GIVEN ROWS OF THIS SEAT. 5 by the template 'for every input the law returns true; each argument reads behind the call as it read before'; 0 by the template 'total and deterministic' (their statements: Qxb6601856aTotals.lean).
  GIVEN WITH THE SEED: the statements are not yours to turn. If you find one false, say at which input.
  Laid BY PROGRAM, IN A SANDBOX (cutbox-rows.mjs): the forced cells as the released guide's own fill.sh prints them over the translation 511d6c3505626a2c… (all of the seat's roots in one cut). By AI agents, Wed Nov 11 2026. No macro, syntax, notation, axiom, sorry.
-/
import Derived.Test.Qxb6601856aChecked
import GoSem.Claim
import GoSem.ClaimJoined
import GoSem.ClaimMapViews
import Derived.JoinedTies
import Derived.KernelRfl
namespace Go.Proofs.Qxb6601856a
/- THE CELL 'sum', in the pinned program and in every row, IS THE sha256 OF THE DUMP (.gsa) THAT Qxb6601856aProg.lean LOADS. Nothing in Lean hashes anything: it is a label: what it is worth is what the hold of that sum in a sandbox is worth. -/
noncomputable def Try.pinned : Pinned := { name := "qxb6601856a", sum := "511d6c3505626a2cd674074e18219c9ff6716cb4b20893ce9342d2aa29344192", checked := Try.checked }
namespace Rows
def none {H : Type} : Left H := { results := [], args := [] }

/-- 'zzlaws_ws_handshake_b1.FnParseRequestLineExact': WHATEVER THE INPUT: true; the input reads as it did. -/
def fnParseRequestLineExactSpec : ChangeSpec := { name := "fnParseRequestLineExact", fn := fun _ => fun
  | [d] => { results := [.lit (.bool true)], args := [d] }
  | _ => none }
def fnParseRequestLineExactRow : OpenClaim := { program := "qxb6601856a", sum := "511d6c3505626a2cd674074e18219c9ff6716cb4b20893ce9342d2aa29344192", func := "diapause.example/diapause/zzlaws_ws_handshake_b1.FnParseRequestLineExact", spec := "fnParseRequestLineExact", inPlace := ["internal/bytealg.IndexByte", "internal/bytealg.Index", "internal/bytealg.IndexByteString"], named := ["internal/bytealg.MaxLen"], apart := false }
def FnParseRequestLineExactSaid : Prop := fnParseRequestLineExactRow.holds Try.pinned (OpenSpec.ofChange fnParseRequestLineExactSpec)

/-- ITS FALSE NEIGHBOUR: 'it returns false'. Refute it at one input. -/
def fnParseRequestLineExactWrong : ChangeSpec := { name := "fnParseRequestLineExact", fn := fun _ => fun
  | [d] => { results := [.lit (.bool false)], args := [d] }
  | _ => none }
def FnParseRequestLineExactWrongFalsely : Prop := fnParseRequestLineExactRow.holds Try.pinned (OpenSpec.ofChange fnParseRequestLineExactWrong)

/-- 'zzlaws_ws_handshake_b1.FnParseRequestLineBuildParse': WHATEVER THE INPUT: true; the input reads as it did. -/
def fnParseRequestLineBuildParseSpec : ChangeSpec := { name := "fnParseRequestLineBuildParse", fn := fun _ => fun
  | [d1, d2, d3, d4] => { results := [.lit (.bool true)], args := [d1, d2, d3, d4] }
  | _ => none }
def fnParseRequestLineBuildParseRow : OpenClaim := { program := "qxb6601856a", sum := "511d6c3505626a2cd674074e18219c9ff6716cb4b20893ce9342d2aa29344192", func := "diapause.example/diapause/zzlaws_ws_handshake_b1.FnParseRequestLineBuildParse", spec := "fnParseRequestLineBuildParse", inPlace := ["internal/bytealg.IndexByte", "internal/bytealg.Index", "internal/bytealg.IndexByteString"], named := ["internal/bytealg.MaxLen"], apart := false }
def FnParseRequestLineBuildParseSaid : Prop := fnParseRequestLineBuildParseRow.holds Try.pinned (OpenSpec.ofChange fnParseRequestLineBuildParseSpec)

/-- ITS FALSE NEIGHBOUR: 'it returns false'. Refute it at one input. -/
def fnParseRequestLineBuildParseWrong : ChangeSpec := { name := "fnParseRequestLineBuildParse", fn := fun _ => fun
  | [d1, d2, d3, d4] => { results := [.lit (.bool false)], args := [d1, d2, d3, d4] }
  | _ => none }
def FnParseRequestLineBuildParseWrongFalsely : Prop := fnParseRequestLineBuildParseRow.holds Try.pinned (OpenSpec.ofChange fnParseRequestLineBuildParseWrong)

/-- 'zzlaws_ws_handshake_b1.FnParseRequestLinePrintBack': WHATEVER THE INPUT: true; the input reads as it did. -/
def fnParseRequestLinePrintBackSpec : ChangeSpec := { name := "fnParseRequestLinePrintBack", fn := fun _ => fun
  | [d] => { results := [.lit (.bool true)], args := [d] }
  | _ => none }
def fnParseRequestLinePrintBackRow : OpenClaim := { program := "qxb6601856a", sum := "511d6c3505626a2cd674074e18219c9ff6716cb4b20893ce9342d2aa29344192", func := "diapause.example/diapause/zzlaws_ws_handshake_b1.FnParseRequestLinePrintBack", spec := "fnParseRequestLinePrintBack", inPlace := ["internal/bytealg.IndexByte", "internal/bytealg.Index", "internal/bytealg.IndexByteString"], named := ["internal/bytealg.MaxLen"], apart := false }
def FnParseRequestLinePrintBackSaid : Prop := fnParseRequestLinePrintBackRow.holds Try.pinned (OpenSpec.ofChange fnParseRequestLinePrintBackSpec)

/-- ITS FALSE NEIGHBOUR: 'it returns false'. Refute it at one input. -/
def fnParseRequestLinePrintBackWrong : ChangeSpec := { name := "fnParseRequestLinePrintBack", fn := fun _ => fun
  | [d] => { results := [.lit (.bool false)], args := [d] }
  | _ => none }
def FnParseRequestLinePrintBackWrongFalsely : Prop := fnParseRequestLinePrintBackRow.holds Try.pinned (OpenSpec.ofChange fnParseRequestLinePrintBackWrong)

/-- 'zzlaws_ws_handshake_b1.FnIsTargetConcat': WHATEVER THE INPUT: true; the input reads as it did. -/
def fnIsTargetConcatSpec : ChangeSpec := { name := "fnIsTargetConcat", fn := fun _ => fun
  | [d1, d2] => { results := [.lit (.bool true)], args := [d1, d2] }
  | _ => none }
def fnIsTargetConcatRow : OpenClaim := { program := "qxb6601856a", sum := "511d6c3505626a2cd674074e18219c9ff6716cb4b20893ce9342d2aa29344192", func := "diapause.example/diapause/zzlaws_ws_handshake_b1.FnIsTargetConcat", spec := "fnIsTargetConcat", apart := false }
def FnIsTargetConcatSaid : Prop := fnIsTargetConcatRow.holds Try.pinned (OpenSpec.ofChange fnIsTargetConcatSpec)

/-- ITS FALSE NEIGHBOUR: 'it returns false'. Refute it at one input. -/
def fnIsTargetConcatWrong : ChangeSpec := { name := "fnIsTargetConcat", fn := fun _ => fun
  | [d1, d2] => { results := [.lit (.bool false)], args := [d1, d2] }
  | _ => none }
def FnIsTargetConcatWrongFalsely : Prop := fnIsTargetConcatRow.holds Try.pinned (OpenSpec.ofChange fnIsTargetConcatWrong)

/-- 'zzlaws_ws_handshake_b1.FnIsTargetAgreesWithRequestLine': WHATEVER THE INPUT: true; the input reads as it did. -/
def fnIsTargetAgreesWithRequestLineSpec : ChangeSpec := { name := "fnIsTargetAgreesWithRequestLine", fn := fun _ => fun
  | [d] => { results := [.lit (.bool true)], args := [d] }
  | _ => none }
def fnIsTargetAgreesWithRequestLineRow : OpenClaim := { program := "qxb6601856a", sum := "511d6c3505626a2cd674074e18219c9ff6716cb4b20893ce9342d2aa29344192", func := "diapause.example/diapause/zzlaws_ws_handshake_b1.FnIsTargetAgreesWithRequestLine", spec := "fnIsTargetAgreesWithRequestLine", inPlace := ["internal/bytealg.IndexByte", "internal/bytealg.Index", "internal/bytealg.IndexByteString"], named := ["internal/bytealg.MaxLen"], apart := false }
def FnIsTargetAgreesWithRequestLineSaid : Prop := fnIsTargetAgreesWithRequestLineRow.holds Try.pinned (OpenSpec.ofChange fnIsTargetAgreesWithRequestLineSpec)

/-- ITS FALSE NEIGHBOUR: 'it returns false'. Refute it at one input. -/
def fnIsTargetAgreesWithRequestLineWrong : ChangeSpec := { name := "fnIsTargetAgreesWithRequestLine", fn := fun _ => fun
  | [d] => { results := [.lit (.bool false)], args := [d] }
  | _ => none }
def FnIsTargetAgreesWithRequestLineWrongFalsely : Prop := fnIsTargetAgreesWithRequestLineRow.holds Try.pinned (OpenSpec.ofChange fnIsTargetAgreesWithRequestLineWrong)

end Rows
end Go.Proofs.Qxb6601856a
