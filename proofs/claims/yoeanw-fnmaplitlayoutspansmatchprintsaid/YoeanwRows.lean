/-
  No cell of these rows narrows 'for every input' (looked for: loops, veiled, ifaces, maps, wideKeys, modest, calm, conditions, laid).
  DERIVED. THE GIVEN ROWS OF THIS SEAT. 2 by the template 'for every input the law returns true; each argument reads behind the call as it read before'; 0 by the template 'total and deterministic' (their statements: YoeanwTotals.lean).
  GIVEN WITH THE SEED: the statements are not yours to turn. If you find one false, say at which input.
  Laid BY PROGRAM, IN A SANDBOX (cutbox-rows.mjs): the forced cells as the released guide's own fill.sh prints them over the translation 45fed37ea8b61586… (all of the seat's roots in one cut). By AI agents, Wed Nov 11 2026. No macro, syntax, notation, axiom, sorry.
-/
import Derived.Test.YoeanwChecked
import GoSem.Claim
import GoSem.ClaimJoined
import GoSem.ClaimMapViews
import Derived.JoinedTies
import Derived.KernelRfl
namespace Go.Proofs.Yoeanw
/- THE CELL 'sum', in the pinned program and in every row, IS THE sha256 OF THE DUMP (.gsa) THAT YoeanwProg.lean LOADS. Nothing in Lean hashes anything: it is a label: what it is worth is what the hold of that sum in a sandbox is worth. -/
noncomputable def Eang.pinned : Pinned := { name := "yoeanw", sum := "45fed37ea8b61586d9b74557977125424722366610e602d01490035ea4940706", checked := Eang.checked }
namespace Rows
def none {H : Type} : Left H := { results := [], args := [] }

/-- 'zzlaws_parser_b18.FnMapElementSpanEqualsPrintedLength': WHATEVER THE INPUT: true; the input reads as it did. -/
def fnMapElementSpanEqualsPrintedLengthSpec : ChangeSpec := { name := "fnMapElementSpanEqualsPrintedLength", fn := fun _ => fun
  | [d1, d2, d3, d4] => { results := [.lit (.bool true)], args := [d1, d2, d3, d4] }
  | _ => none }
def fnMapElementSpanEqualsPrintedLengthRow : OpenClaim := { program := "yoeanw", sum := "45fed37ea8b61586d9b74557977125424722366610e602d01490035ea4940706", func := "github.com/d5/tengo/v2/zzlaws_parser_b18.FnMapElementSpanEqualsPrintedLength", spec := "fnMapElementSpanEqualsPrintedLength", unfollowed := true, recurses := true, apart := false }
def FnMapElementSpanEqualsPrintedLengthSaid : Prop := fnMapElementSpanEqualsPrintedLengthRow.holds Eang.pinned (OpenSpec.ofChange fnMapElementSpanEqualsPrintedLengthSpec)

/-- ITS FALSE NEIGHBOUR: 'it returns false'. Refute it at one input. -/
def fnMapElementSpanEqualsPrintedLengthWrong : ChangeSpec := { name := "fnMapElementSpanEqualsPrintedLength", fn := fun _ => fun
  | [d1, d2, d3, d4] => { results := [.lit (.bool false)], args := [d1, d2, d3, d4] }
  | _ => none }
def FnMapElementSpanEqualsPrintedLengthWrongFalsely : Prop := fnMapElementSpanEqualsPrintedLengthRow.holds Eang.pinned (OpenSpec.ofChange fnMapElementSpanEqualsPrintedLengthWrong)

/-- 'zzlaws_parser_b18.FnMapLitLayoutSpansMatchPrint': WHATEVER THE INPUT: true; the input reads as it did. -/
def fnMapLitLayoutSpansMatchPrintSpec : ChangeSpec := { name := "fnMapLitLayoutSpansMatchPrint", fn := fun _ => fun
  | [d1, d2, d3] => { results := [.lit (.bool true)], args := [d1, d2, d3] }
  | _ => none }
def fnMapLitLayoutSpansMatchPrintRow : OpenClaim := { program := "yoeanw", sum := "45fed37ea8b61586d9b74557977125424722366610e602d01490035ea4940706", func := "github.com/d5/tengo/v2/zzlaws_parser_b18.FnMapLitLayoutSpansMatchPrint", spec := "fnMapLitLayoutSpansMatchPrint", inPlace := ["internal/abi.NoEscape", "internal/bytealg.MakeNoZero"], unfollowed := true, recurses := true, apart := false }
def FnMapLitLayoutSpansMatchPrintSaid : Prop := fnMapLitLayoutSpansMatchPrintRow.holds Eang.pinned (OpenSpec.ofChange fnMapLitLayoutSpansMatchPrintSpec)

/-- ITS FALSE NEIGHBOUR: 'it returns false'. Refute it at one input. -/
def fnMapLitLayoutSpansMatchPrintWrong : ChangeSpec := { name := "fnMapLitLayoutSpansMatchPrint", fn := fun _ => fun
  | [d1, d2, d3] => { results := [.lit (.bool false)], args := [d1, d2, d3] }
  | _ => none }
def FnMapLitLayoutSpansMatchPrintWrongFalsely : Prop := fnMapLitLayoutSpansMatchPrintRow.holds Eang.pinned (OpenSpec.ofChange fnMapLitLayoutSpansMatchPrintWrong)

end Rows
end Go.Proofs.Yoeanw
