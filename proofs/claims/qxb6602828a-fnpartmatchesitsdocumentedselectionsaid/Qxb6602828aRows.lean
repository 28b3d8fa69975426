/-
  No cell of these rows narrows 'for every input' (looked for: loops, veiled, ifaces, maps, wideKeys, modest, calm, conditions, laid).
  DERIVED. THE GIVEN ROWS OF THIS SEAT. 5 by the template 'for every input the law returns true; each argument reads behind the call as it read before'; 0 by the template 'total and deterministic' (their statements: Qxb6602828aTotals.lean).
  GIVEN WITH THE SEED: the statements are not yours to turn. If you find one false, say at which input.
  Laid BY PROGRAM, IN A SANDBOX (cutbox-rows.mjs): the forced cells as the released guide's own fill.sh prints them over the translation 2cc600feb287d57a… (all of the seat's roots in one cut). By AI agents, Wed Nov 11 2026. No macro, syntax, notation, axiom, sorry.
-/
import Derived.Test.Qxb6602828aChecked
import GoSem.Claim
import GoSem.ClaimJoined
import GoSem.ClaimMapViews
import Derived.JoinedTies
import Derived.KernelRfl
namespace Go.Proofs.Qxb6602828a
/- THE CELL 'sum', in the pinned program and in every row, IS THE sha256 OF THE DUMP (.gsa) THAT Qxb6602828aProg.lean LOADS. Nothing in Lean hashes anything: it is a label: what it is worth is what the hold of that sum in a sandbox is worth. -/
noncomputable def Try.pinned : Pinned := { name := "qxb6602828a", sum := "2cc600feb287d57af057653129da6cb67721cd945a31fcef69c21d9187d2507c", checked := Try.checked }
namespace Rows
def none {H : Type} : Left H := { results := [], args := [] }

/-- 'zzlaws_vtp_b1.FnMaxIsNameByNameMaximum': WHATEVER THE INPUT: true; the input reads as it did. -/
def fnMaxIsNameByNameMaximumSpec : ChangeSpec := { name := "fnMaxIsNameByNameMaximum", fn := fun _ => fun
  | [d1, d2] => { results := [.lit (.bool true)], args := [d1, d2] }
  | _ => none }
def fnMaxIsNameByNameMaximumRow : OpenClaim := { program := "qxb6602828a", sum := "2cc600feb287d57af057653129da6cb67721cd945a31fcef69c21d9187d2507c", func := "example.com/tideline/tideline/zzlaws_vtp_b1.FnMaxIsNameByNameMaximum", spec := "fnMaxIsNameByNameMaximum", apart := false }
def FnMaxIsNameByNameMaximumSaid : Prop := fnMaxIsNameByNameMaximumRow.holds Try.pinned (OpenSpec.ofChange fnMaxIsNameByNameMaximumSpec)

/-- ITS FALSE NEIGHBOUR: 'it returns false'. Refute it at one input. -/
def fnMaxIsNameByNameMaximumWrong : ChangeSpec := { name := "fnMaxIsNameByNameMaximum", fn := fun _ => fun
  | [d1, d2] => { results := [.lit (.bool false)], args := [d1, d2] }
  | _ => none }
def FnMaxIsNameByNameMaximumWrongFalsely : Prop := fnMaxIsNameByNameMaximumRow.holds Try.pinned (OpenSpec.ofChange fnMaxIsNameByNameMaximumWrong)

/-- 'zzlaws_vtp_b1.FnMaxIsAssociative': WHATEVER THE INPUT: true; the input reads as it did. -/
def fnMaxIsAssociativeSpec : ChangeSpec := { name := "fnMaxIsAssociative", fn := fun _ => fun
  | [d1, d2, d3] => { results := [.lit (.bool true)], args := [d1, d2, d3] }
  | _ => none }
def fnMaxIsAssociativeRow : OpenClaim := { program := "qxb6602828a", sum := "2cc600feb287d57af057653129da6cb67721cd945a31fcef69c21d9187d2507c", func := "example.com/tideline/tideline/zzlaws_vtp_b1.FnMaxIsAssociative", spec := "fnMaxIsAssociative", apart := false }
def FnMaxIsAssociativeSaid : Prop := fnMaxIsAssociativeRow.holds Try.pinned (OpenSpec.ofChange fnMaxIsAssociativeSpec)

/-- ITS FALSE NEIGHBOUR: 'it returns false'. Refute it at one input. -/
def fnMaxIsAssociativeWrong : ChangeSpec := { name := "fnMaxIsAssociative", fn := fun _ => fun
  | [d1, d2, d3] => { results := [.lit (.bool false)], args := [d1, d2, d3] }
  | _ => none }
def FnMaxIsAssociativeWrongFalsely : Prop := fnMaxIsAssociativeRow.holds Try.pinned (OpenSpec.ofChange fnMaxIsAssociativeWrong)

/-- 'zzlaws_vtp_b1.FnMaxIsLeastUpperBound': WHATEVER THE INPUT: true; the input reads as it did. -/
def fnMaxIsLeastUpperBoundSpec : ChangeSpec := { name := "fnMaxIsLeastUpperBound", fn := fun _ => fun
  | [d1, d2, d3] => { results := [.lit (.bool true)], args := [d1, d2, d3] }
  | _ => none }
def fnMaxIsLeastUpperBoundRow : OpenClaim := { program := "qxb6602828a", sum := "2cc600feb287d57af057653129da6cb67721cd945a31fcef69c21d9187d2507c", func := "example.com/tideline/tideline/zzlaws_vtp_b1.FnMaxIsLeastUpperBound", spec := "fnMaxIsLeastUpperBound", apart := false }
def FnMaxIsLeastUpperBoundSaid : Prop := fnMaxIsLeastUpperBoundRow.holds Try.pinned (OpenSpec.ofChange fnMaxIsLeastUpperBoundSpec)

/-- ITS FALSE NEIGHBOUR: 'it returns false'. Refute it at one input. -/
def fnMaxIsLeastUpperBoundWrong : ChangeSpec := { name := "fnMaxIsLeastUpperBound", fn := fun _ => fun
  | [d1, d2, d3] => { results := [.lit (.bool false)], args := [d1, d2, d3] }
  | _ => none }
def FnMaxIsLeastUpperBoundWrongFalsely : Prop := fnMaxIsLeastUpperBoundRow.holds Try.pinned (OpenSpec.ofChange fnMaxIsLeastUpperBoundWrong)

/-- 'zzlaws_vtp_b1.FnChildrenListsEachPathOnceUnderItsParent': WHATEVER THE INPUT: true; the input reads as it did. -/
def fnChildrenListsEachPathOnceUnderItsParentSpec : ChangeSpec := { name := "fnChildrenListsEachPathOnceUnderItsParent", fn := fun _ => fun
  | [d1, d2] => { results := [.lit (.bool true)], args := [d1, d2] }
  | _ => none }
def fnChildrenListsEachPathOnceUnderItsParentRow : OpenClaim := { program := "qxb6602828a", sum := "2cc600feb287d57af057653129da6cb67721cd945a31fcef69c21d9187d2507c", func := "example.com/tideline/tideline/zzlaws_vtp_b1.FnChildrenListsEachPathOnceUnderItsParent", spec := "fnChildrenListsEachPathOnceUnderItsParent", unfollowed := true, recurses := true, apart := false }
def FnChildrenListsEachPathOnceUnderItsParentSaid : Prop := fnChildrenListsEachPathOnceUnderItsParentRow.holds Try.pinned (OpenSpec.ofChange fnChildrenListsEachPathOnceUnderItsParentSpec)

/-- ITS FALSE NEIGHBOUR: 'it returns false'. Refute it at one input. -/
def fnChildrenListsEachPathOnceUnderItsParentWrong : ChangeSpec := { name := "fnChildrenListsEachPathOnceUnderItsParent", fn := fun _ => fun
  | [d1, d2] => { results := [.lit (.bool false)], args := [d1, d2] }
  | _ => none }
def FnChildrenListsEachPathOnceUnderItsParentWrongFalsely : Prop := fnChildrenListsEachPathOnceUnderItsParentRow.holds Try.pinned (OpenSpec.ofChange fnChildrenListsEachPathOnceUnderItsParentWrong)

/-- 'zzlaws_vtp_b1.FnPartMatchesItsDocumentedSelection': WHATEVER THE INPUT: true; the input reads as it did. -/
def fnPartMatchesItsDocumentedSelectionSpec : ChangeSpec := { name := "fnPartMatchesItsDocumentedSelection", fn := fun _ => fun
  | [d1, d2, d3] => { results := [.lit (.bool true)], args := [d1, d2, d3] }
  | _ => none }
def fnPartMatchesItsDocumentedSelectionRow : OpenClaim := { program := "qxb6602828a", sum := "2cc600feb287d57af057653129da6cb67721cd945a31fcef69c21d9187d2507c", func := "example.com/tideline/tideline/zzlaws_vtp_b1.FnPartMatchesItsDocumentedSelection", spec := "fnPartMatchesItsDocumentedSelection", unfollowed := true, recurses := true, apart := false }
def FnPartMatchesItsDocumentedSelectionSaid : Prop := fnPartMatchesItsDocumentedSelectionRow.holds Try.pinned (OpenSpec.ofChange fnPartMatchesItsDocumentedSelectionSpec)

/-- ITS FALSE NEIGHBOUR: 'it returns false'. Refute it at one input. -/
def fnPartMatchesItsDocumentedSelectionWrong : ChangeSpec := { name := "fnPartMatchesItsDocumentedSelection", fn := fun _ => fun
  | [d1, d2, d3] => { results := [.lit (.bool false)], args := [d1, d2, d3] }
  | _ => none }
def FnPartMatchesItsDocumentedSelectionWrongFalsely : Prop := fnPartMatchesItsDocumentedSelectionRow.holds Try.pinned (OpenSpec.ofChange fnPartMatchesItsDocumentedSelectionWrong)

end Rows
end Go.Proofs.Qxb6602828a
