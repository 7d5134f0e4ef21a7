/-
  No cell of these rows narrows 'for every input' (looked for: loops, veiled, ifaces, maps, wideKeys, modest, calm, conditions, laid).
  DERIVED. THE GIVEN ROWS OF THIS SEAT. 4 by the template 'for every input the law returns true; each argument reads behind the call as it read before'; 0 by the template 'total and deterministic' (their statements: Qxb6600987aModsTotals.lean).
  GIVEN WITH THE SEED: the statements are not yours to turn. If you find one false, say at which input.
  Laid BY PROGRAM, IN A SANDBOX (cutbox-rows.mjs): the forced cells as the released guide's own fill.sh prints them over the translation cd4b018785bbbd99… (all of the seat's roots in one cut). By AI agents, Wed Nov 11 2026. No macro, syntax, notation, axiom, sorry.
-/
import Derived.Test.Qxb6600987aModsChecked
import GoSem.Claim
import GoSem.ClaimJoined
import GoSem.ClaimMapViews
import Derived.JoinedTies
import Derived.KernelRfl
namespace Go.Proofs.Qxb6600987aMods
/- THE CELL 'sum', in the pinned program and in every row, IS THE sha256 OF THE DUMP (.gsa) THAT Qxb6600987aModsProg.lean LOADS. Nothing in Lean hashes anything: it is a label: what it is worth is what the hold of that sum in a sandbox is worth. -/
noncomputable def Trym.pinned : Pinned := { name := "qxb6600987amods", sum := "cd4b018785bbbd991a916faa8ca41ee19bbc197c87c7ddfc8c4f6362b01bc598", checked := Trym.checked }
namespace Rows
def none {H : Type} : Left H := { results := [], args := [] }

/-- 'zzlaws_proctree_b1.FnDepthCountsAncestors': WHATEVER THE INPUT: true; the input reads as it did. -/
def fnDepthCountsAncestorsSpec : ChangeSpec := { name := "fnDepthCountsAncestors", fn := fun _ => fun
  | [d1, d2, d3] => { results := [.lit (.bool true)], args := [d1, d2, d3] }
  | _ => none }
def fnDepthCountsAncestorsRow : OpenClaim := { program := "qxb6600987amods", sum := "cd4b018785bbbd991a916faa8ca41ee19bbc197c87c7ddfc8c4f6362b01bc598", func := "example.com/cordon/cordon/zzlaws_proctree_b1.FnDepthCountsAncestors", spec := "fnDepthCountsAncestors", make := .lifted ["publicsums"], apart := false }
def FnDepthCountsAncestorsSaid : Prop := fnDepthCountsAncestorsRow.holds Trym.pinned (OpenSpec.ofChange fnDepthCountsAncestorsSpec)

/-- ITS FALSE NEIGHBOUR: 'it returns false'. Refute it at one input. -/
def fnDepthCountsAncestorsWrong : ChangeSpec := { name := "fnDepthCountsAncestors", fn := fun _ => fun
  | [d1, d2, d3] => { results := [.lit (.bool false)], args := [d1, d2, d3] }
  | _ => none }
def FnDepthCountsAncestorsWrongFalsely : Prop := fnDepthCountsAncestorsRow.holds Trym.pinned (OpenSpec.ofChange fnDepthCountsAncestorsWrong)

/-- 'zzlaws_proctree_b1.FnDepthIsOneMoreThanItsParent': WHATEVER THE INPUT: true; the input reads as it did. -/
def fnDepthIsOneMoreThanItsParentSpec : ChangeSpec := { name := "fnDepthIsOneMoreThanItsParent", fn := fun _ => fun
  | [d1, d2, d3] => { results := [.lit (.bool true)], args := [d1, d2, d3] }
  | _ => none }
def fnDepthIsOneMoreThanItsParentRow : OpenClaim := { program := "qxb6600987amods", sum := "cd4b018785bbbd991a916faa8ca41ee19bbc197c87c7ddfc8c4f6362b01bc598", func := "example.com/cordon/cordon/zzlaws_proctree_b1.FnDepthIsOneMoreThanItsParent", spec := "fnDepthIsOneMoreThanItsParent", make := .lifted ["publicsums"], apart := false }
def FnDepthIsOneMoreThanItsParentSaid : Prop := fnDepthIsOneMoreThanItsParentRow.holds Trym.pinned (OpenSpec.ofChange fnDepthIsOneMoreThanItsParentSpec)

/-- ITS FALSE NEIGHBOUR: 'it returns false'. Refute it at one input. -/
def fnDepthIsOneMoreThanItsParentWrong : ChangeSpec := { name := "fnDepthIsOneMoreThanItsParent", fn := fun _ => fun
  | [d1, d2, d3] => { results := [.lit (.bool false)], args := [d1, d2, d3] }
  | _ => none }
def FnDepthIsOneMoreThanItsParentWrongFalsely : Prop := fnDepthIsOneMoreThanItsParentRow.holds Trym.pinned (OpenSpec.ofChange fnDepthIsOneMoreThanItsParentWrong)

/-- 'zzlaws_proctree_b1.FnDescendantsAreThoseBelowALiveRoot': WHATEVER THE INPUT: true; the input reads as it did. -/
def fnDescendantsAreThoseBelowALiveRootSpec : ChangeSpec := { name := "fnDescendantsAreThoseBelowALiveRoot", fn := fun _ => fun
  | [d1, d2, d3, d4, d5] => { results := [.lit (.bool true)], args := [d1, d2, d3, d4, d5] }
  | _ => none }
def fnDescendantsAreThoseBelowALiveRootRow : OpenClaim := { program := "qxb6600987amods", sum := "cd4b018785bbbd991a916faa8ca41ee19bbc197c87c7ddfc8c4f6362b01bc598", func := "example.com/cordon/cordon/zzlaws_proctree_b1.FnDescendantsAreThoseBelowALiveRoot", spec := "fnDescendantsAreThoseBelowALiveRoot", make := .lifted ["publicsums"], apart := false }
def FnDescendantsAreThoseBelowALiveRootSaid : Prop := fnDescendantsAreThoseBelowALiveRootRow.holds Trym.pinned (OpenSpec.ofChange fnDescendantsAreThoseBelowALiveRootSpec)

/-- ITS FALSE NEIGHBOUR: 'it returns false'. Refute it at one input. -/
def fnDescendantsAreThoseBelowALiveRootWrong : ChangeSpec := { name := "fnDescendantsAreThoseBelowALiveRoot", fn := fun _ => fun
  | [d1, d2, d3, d4, d5] => { results := [.lit (.bool false)], args := [d1, d2, d3, d4, d5] }
  | _ => none }
def FnDescendantsAreThoseBelowALiveRootWrongFalsely : Prop := fnDescendantsAreThoseBelowALiveRootRow.holds Trym.pinned (OpenSpec.ofChange fnDescendantsAreThoseBelowALiveRootWrong)

/-- 'zzlaws_proctree_b1.FnDescendantsOfUnionIsUnion': WHATEVER THE INPUT: true; the input reads as it did. -/
def fnDescendantsOfUnionIsUnionSpec : ChangeSpec := { name := "fnDescendantsOfUnionIsUnion", fn := fun _ => fun
  | [d1, d2, d3, d4, d5, d6, d7] => { results := [.lit (.bool true)], args := [d1, d2, d3, d4, d5, d6, d7] }
  | _ => none }
def fnDescendantsOfUnionIsUnionRow : OpenClaim := { program := "qxb6600987amods", sum := "cd4b018785bbbd991a916faa8ca41ee19bbc197c87c7ddfc8c4f6362b01bc598", func := "example.com/cordon/cordon/zzlaws_proctree_b1.FnDescendantsOfUnionIsUnion", spec := "fnDescendantsOfUnionIsUnion", make := .lifted ["publicsums"], apart := false }
def FnDescendantsOfUnionIsUnionSaid : Prop := fnDescendantsOfUnionIsUnionRow.holds Trym.pinned (OpenSpec.ofChange fnDescendantsOfUnionIsUnionSpec)

/-- ITS FALSE NEIGHBOUR: 'it returns false'. Refute it at one input. -/
def fnDescendantsOfUnionIsUnionWrong : ChangeSpec := { name := "fnDescendantsOfUnionIsUnion", fn := fun _ => fun
  | [d1, d2, d3, d4, d5, d6, d7] => { results := [.lit (.bool false)], args := [d1, d2, d3, d4, d5, d6, d7] }
  | _ => none }
def FnDescendantsOfUnionIsUnionWrongFalsely : Prop := fnDescendantsOfUnionIsUnionRow.holds Trym.pinned (OpenSpec.ofChange fnDescendantsOfUnionIsUnionWrong)

end Rows
end Go.Proofs.Qxb6600987aMods
