/-
  No cell of these rows narrows 'for every input' (looked for: loops, veiled, ifaces, maps, wideKeys, modest, calm, conditions, laid).
  DERIVED. THE GIVEN ROWS OF THIS SEAT. 4 by the template 'for every input the law returns true; each argument reads behind the call as it read before'; 0 by the template 'total and deterministic' (their statements: Qxb6603068aTotals.lean).
  GIVEN WITH THE SEED: the statements are not yours to turn. If you find one false, say at which input.
  Laid BY PROGRAM, IN A SANDBOX (cutbox-rows.mjs): the forced cells as the released guide's own fill.sh prints them over the translation db8bfa1fb8831e3b… (all of the seat's roots in one cut). By AI agents, Wed Nov 11 2026. No macro, syntax, notation, axiom, sorry.
-/
import Derived.Test.Qxb6603068aChecked
import GoSem.Claim
import GoSem.ClaimJoined
import GoSem.ClaimMapViews
import Derived.JoinedTies
import Derived.KernelRfl
namespace Go.Proofs.Qxb6603068a
/- THE CELL 'sum', in the pinned program and in every row, IS THE sha256 OF THE DUMP (.gsa) THAT Qxb6603068aProg.lean LOADS. Nothing in Lean hashes anything: it is a label: what it is worth is what the hold of that sum in a sandbox is worth. -/
noncomputable def Try.pinned : Pinned := { name := "qxb6603068a", sum := "db8bfa1fb8831e3b42b41f926ccc8bf84af2ece20b139f756acd2cf585bf8dd8", checked := Try.checked }
namespace Rows
def none {H : Type} : Left H := { results := [], args := [] }

/-- 'zzlaws_internal_bzip2enc_b1.FnCodingWriteMatchesBitModel': WHATEVER THE INPUT: true; the input reads as it did. -/
def fnCodingWriteMatchesBitModelSpec : ChangeSpec := { name := "fnCodingWriteMatchesBitModel", fn := fun _ => fun
  | [d1, d2, d3, d4, d5, d6, d7, d8] => { results := [.lit (.bool true)], args := [d1, d2, d3, d4, d5, d6, d7, d8] }
  | _ => none }
def fnCodingWriteMatchesBitModelRow : OpenClaim := { program := "qxb6603068a", sum := "db8bfa1fb8831e3b42b41f926ccc8bf84af2ece20b139f756acd2cf585bf8dd8", func := "example.com/quaymark/quaymark/zzlaws_internal_bzip2enc_b1.FnCodingWriteMatchesBitModel", spec := "fnCodingWriteMatchesBitModel", apart := false }
def FnCodingWriteMatchesBitModelSaid : Prop := fnCodingWriteMatchesBitModelRow.holds Try.pinned (OpenSpec.ofChange fnCodingWriteMatchesBitModelSpec)

/-- ITS FALSE NEIGHBOUR: 'it returns false'. Refute it at one input. -/
def fnCodingWriteMatchesBitModelWrong : ChangeSpec := { name := "fnCodingWriteMatchesBitModel", fn := fun _ => fun
  | [d1, d2, d3, d4, d5, d6, d7, d8] => { results := [.lit (.bool false)], args := [d1, d2, d3, d4, d5, d6, d7, d8] }
  | _ => none }
def FnCodingWriteMatchesBitModelWrongFalsely : Prop := fnCodingWriteMatchesBitModelRow.holds Try.pinned (OpenSpec.ofChange fnCodingWriteMatchesBitModelWrong)

/-- 'zzlaws_internal_bzip2enc_b1.FnCodingWriteBitCountAgreesWithCost': WHATEVER THE INPUT: true; the input reads as it did. -/
def fnCodingWriteBitCountAgreesWithCostSpec : ChangeSpec := { name := "fnCodingWriteBitCountAgreesWithCost", fn := fun _ => fun
  | [d1, d2, d3, d4, d5, d6, d7, d8] => { results := [.lit (.bool true)], args := [d1, d2, d3, d4, d5, d6, d7, d8] }
  | _ => none }
def fnCodingWriteBitCountAgreesWithCostRow : OpenClaim := { program := "qxb6603068a", sum := "db8bfa1fb8831e3b42b41f926ccc8bf84af2ece20b139f756acd2cf585bf8dd8", func := "example.com/quaymark/quaymark/zzlaws_internal_bzip2enc_b1.FnCodingWriteBitCountAgreesWithCost", spec := "fnCodingWriteBitCountAgreesWithCost", apart := false }
def FnCodingWriteBitCountAgreesWithCostSaid : Prop := fnCodingWriteBitCountAgreesWithCostRow.holds Try.pinned (OpenSpec.ofChange fnCodingWriteBitCountAgreesWithCostSpec)

/-- ITS FALSE NEIGHBOUR: 'it returns false'. Refute it at one input. -/
def fnCodingWriteBitCountAgreesWithCostWrong : ChangeSpec := { name := "fnCodingWriteBitCountAgreesWithCost", fn := fun _ => fun
  | [d1, d2, d3, d4, d5, d6, d7, d8] => { results := [.lit (.bool false)], args := [d1, d2, d3, d4, d5, d6, d7, d8] }
  | _ => none }
def FnCodingWriteBitCountAgreesWithCostWrongFalsely : Prop := fnCodingWriteBitCountAgreesWithCostRow.holds Try.pinned (OpenSpec.ofChange fnCodingWriteBitCountAgreesWithCostWrong)

/-- 'zzlaws_internal_bzip2enc_b1.FnMoveToFrontMatchesRecencyModel': WHATEVER THE INPUT: true; the input reads as it did. -/
def fnMoveToFrontMatchesRecencyModelSpec : ChangeSpec := { name := "fnMoveToFrontMatchesRecencyModel", fn := fun _ => fun
  | [d1, d2, d3, d4] => { results := [.lit (.bool true)], args := [d1, d2, d3, d4] }
  | _ => none }
def fnMoveToFrontMatchesRecencyModelRow : OpenClaim := { program := "qxb6603068a", sum := "db8bfa1fb8831e3b42b41f926ccc8bf84af2ece20b139f756acd2cf585bf8dd8", func := "example.com/quaymark/quaymark/zzlaws_internal_bzip2enc_b1.FnMoveToFrontMatchesRecencyModel", spec := "fnMoveToFrontMatchesRecencyModel", apart := false }
def FnMoveToFrontMatchesRecencyModelSaid : Prop := fnMoveToFrontMatchesRecencyModelRow.holds Try.pinned (OpenSpec.ofChange fnMoveToFrontMatchesRecencyModelSpec)

/-- ITS FALSE NEIGHBOUR: 'it returns false'. Refute it at one input. -/
def fnMoveToFrontMatchesRecencyModelWrong : ChangeSpec := { name := "fnMoveToFrontMatchesRecencyModel", fn := fun _ => fun
  | [d1, d2, d3, d4] => { results := [.lit (.bool false)], args := [d1, d2, d3, d4] }
  | _ => none }
def FnMoveToFrontMatchesRecencyModelWrongFalsely : Prop := fnMoveToFrontMatchesRecencyModelRow.holds Try.pinned (OpenSpec.ofChange fnMoveToFrontMatchesRecencyModelWrong)

/-- 'zzlaws_internal_bzip2enc_b1.FnMoveToFrontDecodesBack': WHATEVER THE INPUT: true; the input reads as it did. -/
def fnMoveToFrontDecodesBackSpec : ChangeSpec := { name := "fnMoveToFrontDecodesBack", fn := fun _ => fun
  | [d1, d2, d3, d4] => { results := [.lit (.bool true)], args := [d1, d2, d3, d4] }
  | _ => none }
def fnMoveToFrontDecodesBackRow : OpenClaim := { program := "qxb6603068a", sum := "db8bfa1fb8831e3b42b41f926ccc8bf84af2ece20b139f756acd2cf585bf8dd8", func := "example.com/quaymark/quaymark/zzlaws_internal_bzip2enc_b1.FnMoveToFrontDecodesBack", spec := "fnMoveToFrontDecodesBack", apart := false }
def FnMoveToFrontDecodesBackSaid : Prop := fnMoveToFrontDecodesBackRow.holds Try.pinned (OpenSpec.ofChange fnMoveToFrontDecodesBackSpec)

/-- ITS FALSE NEIGHBOUR: 'it returns false'. Refute it at one input. -/
def fnMoveToFrontDecodesBackWrong : ChangeSpec := { name := "fnMoveToFrontDecodesBack", fn := fun _ => fun
  | [d1, d2, d3, d4] => { results := [.lit (.bool false)], args := [d1, d2, d3, d4] }
  | _ => none }
def FnMoveToFrontDecodesBackWrongFalsely : Prop := fnMoveToFrontDecodesBackRow.holds Try.pinned (OpenSpec.ofChange fnMoveToFrontDecodesBackWrong)

end Rows
end Go.Proofs.Qxb6603068a
