/-
  No cell of these rows narrows 'for every input' (looked for: loops, veiled, ifaces, maps, wideKeys, modest, calm, conditions, laid).
  DERIVED. THE GIVEN ROWS OF THIS SEAT. 3 by the template 'for every input the law returns true; each argument reads behind the call as it read before'; 0 by the template 'total and deterministic' (their statements: Qxb6606068aModsTotals.lean).
  GIVEN WITH THE SEED: the statements are not yours to turn. If you find one false, say at which input.
  Laid BY PROGRAM, IN A SANDBOX (cutbox-rows.mjs): the forced cells as the released guide's own fill.sh prints them over the translation d09b1e790b4957d0… (all of the seat's roots in one cut). By AI agents, Wed Nov 11 2026. No macro, syntax, notation, axiom, sorry.
-/
import Derived.Test.Qxb6606068aModsChecked
import GoSem.Claim
import GoSem.ClaimJoined
import GoSem.ClaimMapViews
import Derived.JoinedTies
import Derived.KernelRfl
namespace Go.Proofs.Qxb6606068aMods
/- THE CELL 'sum', in the pinned program and in every row, IS THE sha256 OF THE DUMP (.gsa) THAT Qxb6606068aModsProg.lean LOADS. Nothing in Lean hashes anything: it is a label: what it is worth is what the hold of that sum in a sandbox is worth. -/
noncomputable def Trym.pinned : Pinned := { name := "qxb6606068amods", sum := "d09b1e790b4957d0d5c3552ef4130fc8e4c34b7e60c40edcac4708fae4f41bf2", checked := Trym.checked }
namespace Rows
def none {H : Type} : Left H := { results := [], args := [] }

/-- 'zzlaws_internal_hdlc_b1.FnFCSMatchesMirroredModel': WHATEVER THE INPUT: true; the input reads as it did. -/
def fnFCSMatchesMirroredModelSpec : ChangeSpec := { name := "fnFCSMatchesMirroredModel", fn := fun _ => fun
  | [d] => { results := [.lit (.bool true)], args := [d] }
  | _ => none }
def fnFCSMatchesMirroredModelRow : OpenClaim := { program := "qxb6606068amods", sum := "d09b1e790b4957d0d5c3552ef4130fc8e4c34b7e60c40edcac4708fae4f41bf2", func := "example.com/mastline/mastline/zzlaws_internal_hdlc_b1.FnFCSMatchesMirroredModel", spec := "fnFCSMatchesMirroredModel", make := .lifted ["publicsums"], apart := false }
def FnFCSMatchesMirroredModelSaid : Prop := fnFCSMatchesMirroredModelRow.holds Trym.pinned (OpenSpec.ofChange fnFCSMatchesMirroredModelSpec)

/-- ITS FALSE NEIGHBOUR: 'it returns false'. Refute it at one input. -/
def fnFCSMatchesMirroredModelWrong : ChangeSpec := { name := "fnFCSMatchesMirroredModel", fn := fun _ => fun
  | [d] => { results := [.lit (.bool false)], args := [d] }
  | _ => none }
def FnFCSMatchesMirroredModelWrongFalsely : Prop := fnFCSMatchesMirroredModelRow.holds Trym.pinned (OpenSpec.ofChange fnFCSMatchesMirroredModelWrong)

/-- 'zzlaws_internal_hdlc_b1.FnFCSAppendedLowFirstLeavesResidue': WHATEVER THE INPUT: true; the input reads as it did. -/
def fnFCSAppendedLowFirstLeavesResidueSpec : ChangeSpec := { name := "fnFCSAppendedLowFirstLeavesResidue", fn := fun _ => fun
  | [d] => { results := [.lit (.bool true)], args := [d] }
  | _ => none }
def fnFCSAppendedLowFirstLeavesResidueRow : OpenClaim := { program := "qxb6606068amods", sum := "d09b1e790b4957d0d5c3552ef4130fc8e4c34b7e60c40edcac4708fae4f41bf2", func := "example.com/mastline/mastline/zzlaws_internal_hdlc_b1.FnFCSAppendedLowFirstLeavesResidue", spec := "fnFCSAppendedLowFirstLeavesResidue", make := .lifted ["publicsums"], apart := false }
def FnFCSAppendedLowFirstLeavesResidueSaid : Prop := fnFCSAppendedLowFirstLeavesResidueRow.holds Trym.pinned (OpenSpec.ofChange fnFCSAppendedLowFirstLeavesResidueSpec)

/-- ITS FALSE NEIGHBOUR: 'it returns false'. Refute it at one input. -/
def fnFCSAppendedLowFirstLeavesResidueWrong : ChangeSpec := { name := "fnFCSAppendedLowFirstLeavesResidue", fn := fun _ => fun
  | [d] => { results := [.lit (.bool false)], args := [d] }
  | _ => none }
def FnFCSAppendedLowFirstLeavesResidueWrongFalsely : Prop := fnFCSAppendedLowFirstLeavesResidueRow.holds Trym.pinned (OpenSpec.ofChange fnFCSAppendedLowFirstLeavesResidueWrong)

/-- 'zzlaws_internal_hdlc_b1.FnFCSAffineOverThree': WHATEVER THE INPUT: true; the input reads as it did. -/
def fnFCSAffineOverThreeSpec : ChangeSpec := { name := "fnFCSAffineOverThree", fn := fun _ => fun
  | [d1, d2, d3] => { results := [.lit (.bool true)], args := [d1, d2, d3] }
  | _ => none }
def fnFCSAffineOverThreeRow : OpenClaim := { program := "qxb6606068amods", sum := "d09b1e790b4957d0d5c3552ef4130fc8e4c34b7e60c40edcac4708fae4f41bf2", func := "example.com/mastline/mastline/zzlaws_internal_hdlc_b1.FnFCSAffineOverThree", spec := "fnFCSAffineOverThree", make := .lifted ["publicsums"], apart := false }
def FnFCSAffineOverThreeSaid : Prop := fnFCSAffineOverThreeRow.holds Trym.pinned (OpenSpec.ofChange fnFCSAffineOverThreeSpec)

/-- ITS FALSE NEIGHBOUR: 'it returns false'. Refute it at one input. -/
def fnFCSAffineOverThreeWrong : ChangeSpec := { name := "fnFCSAffineOverThree", fn := fun _ => fun
  | [d1, d2, d3] => { results := [.lit (.bool false)], args := [d1, d2, d3] }
  | _ => none }
def FnFCSAffineOverThreeWrongFalsely : Prop := fnFCSAffineOverThreeRow.holds Trym.pinned (OpenSpec.ofChange fnFCSAffineOverThreeWrong)

end Rows
end Go.Proofs.Qxb6606068aMods
