/-
  No cell of these rows narrows 'for every input' (looked for: loops, veiled, ifaces, maps, wideKeys, modest, calm, conditions, laid).
  DERIVED. THE GIVEN ROWS OF THIS SEAT. 3 by the template 'for every input the law returns true; each argument reads behind the call as it read before'; 0 by the template 'total and deterministic' (their statements: Qxb6001385aModsTotals.lean).
  GIVEN WITH THE SEED: the statements are not yours to turn. If you find one false, say at which input.
  Laid BY PROGRAM, IN A SANDBOX (cutbox-rows.mjs): the forced cells as the released guide's own fill.sh prints them over the translation b206b30ef9f1a94b… (all of the seat's roots in one cut). By AI agents, Wed Nov 11 2026. No macro, syntax, notation, axiom, sorry.
-/
import Derived.Test.Qxb6001385aModsChecked
import GoSem.Claim
import GoSem.ClaimJoined
import GoSem.ClaimMapViews
import Derived.JoinedTies
import Derived.KernelRfl
namespace Go.Proofs.Qxb6001385aMods
/- THE CELL 'sum', in the pinned program and in every row, IS THE sha256 OF THE DUMP (.gsa) THAT Qxb6001385aModsProg.lean LOADS. Nothing in Lean hashes anything: it is a label: what it is worth is what the hold of that sum in a sandbox is worth. -/
noncomputable def Trym.pinned : Pinned := { name := "qxb6001385amods", sum := "b206b30ef9f1a94b04eede29b93bc34a7438b0ae0b07a3dc2ec907c04febbe97", checked := Trym.checked }
namespace Rows
def none {H : Type} : Left H := { results := [], args := [] }

/-- 'zzlaws_autoscale_b1.FnBoundedIdempotentWithinBounds': WHATEVER THE INPUT: true; the input reads as it did. -/
def fnBoundedIdempotentWithinBoundsSpec : ChangeSpec := { name := "fnBoundedIdempotentWithinBounds", fn := fun _ => fun
  | [d1, d2, d3] => { results := [.lit (.bool true)], args := [d1, d2, d3] }
  | _ => none }
def fnBoundedIdempotentWithinBoundsRow : OpenClaim := { program := "qxb6001385amods", sum := "b206b30ef9f1a94b04eede29b93bc34a7438b0ae0b07a3dc2ec907c04febbe97", func := "example.com/scaleward/scaleward/zzlaws_autoscale_b1.FnBoundedIdempotentWithinBounds", spec := "fnBoundedIdempotentWithinBounds", make := .lifted ["publicsums"], apart := false }
def FnBoundedIdempotentWithinBoundsSaid : Prop := fnBoundedIdempotentWithinBoundsRow.holds Trym.pinned (OpenSpec.ofChange fnBoundedIdempotentWithinBoundsSpec)

/-- ITS FALSE NEIGHBOUR: 'it returns false'. Refute it at one input. -/
def fnBoundedIdempotentWithinBoundsWrong : ChangeSpec := { name := "fnBoundedIdempotentWithinBounds", fn := fun _ => fun
  | [d1, d2, d3] => { results := [.lit (.bool false)], args := [d1, d2, d3] }
  | _ => none }
def FnBoundedIdempotentWithinBoundsWrongFalsely : Prop := fnBoundedIdempotentWithinBoundsRow.holds Trym.pinned (OpenSpec.ofChange fnBoundedIdempotentWithinBoundsWrong)

/-- 'zzlaws_autoscale_b1.FnBoundedMonotone': WHATEVER THE INPUT: true; the input reads as it did. -/
def fnBoundedMonotoneSpec : ChangeSpec := { name := "fnBoundedMonotone", fn := fun _ => fun
  | [d1, d2, d3, d4, d5, d6] => { results := [.lit (.bool true)], args := [d1, d2, d3, d4, d5, d6] }
  | _ => none }
def fnBoundedMonotoneRow : OpenClaim := { program := "qxb6001385amods", sum := "b206b30ef9f1a94b04eede29b93bc34a7438b0ae0b07a3dc2ec907c04febbe97", func := "example.com/scaleward/scaleward/zzlaws_autoscale_b1.FnBoundedMonotone", spec := "fnBoundedMonotone", make := .lifted ["publicsums"], apart := false }
def FnBoundedMonotoneSaid : Prop := fnBoundedMonotoneRow.holds Trym.pinned (OpenSpec.ofChange fnBoundedMonotoneSpec)

/-- ITS FALSE NEIGHBOUR: 'it returns false'. Refute it at one input. -/
def fnBoundedMonotoneWrong : ChangeSpec := { name := "fnBoundedMonotone", fn := fun _ => fun
  | [d1, d2, d3, d4, d5, d6] => { results := [.lit (.bool false)], args := [d1, d2, d3, d4, d5, d6] }
  | _ => none }
def FnBoundedMonotoneWrongFalsely : Prop := fnBoundedMonotoneRow.holds Trym.pinned (OpenSpec.ofChange fnBoundedMonotoneWrong)

/-- 'zzlaws_autoscale_b1.FnBoundedHoldTellsTheMove': WHATEVER THE INPUT: true; the input reads as it did. -/
def fnBoundedHoldTellsTheMoveSpec : ChangeSpec := { name := "fnBoundedHoldTellsTheMove", fn := fun _ => fun
  | [d1, d2, d3] => { results := [.lit (.bool true)], args := [d1, d2, d3] }
  | _ => none }
def fnBoundedHoldTellsTheMoveRow : OpenClaim := { program := "qxb6001385amods", sum := "b206b30ef9f1a94b04eede29b93bc34a7438b0ae0b07a3dc2ec907c04febbe97", func := "example.com/scaleward/scaleward/zzlaws_autoscale_b1.FnBoundedHoldTellsTheMove", spec := "fnBoundedHoldTellsTheMove", make := .lifted ["publicsums"], apart := false }
def FnBoundedHoldTellsTheMoveSaid : Prop := fnBoundedHoldTellsTheMoveRow.holds Trym.pinned (OpenSpec.ofChange fnBoundedHoldTellsTheMoveSpec)

/-- ITS FALSE NEIGHBOUR: 'it returns false'. Refute it at one input. -/
def fnBoundedHoldTellsTheMoveWrong : ChangeSpec := { name := "fnBoundedHoldTellsTheMove", fn := fun _ => fun
  | [d1, d2, d3] => { results := [.lit (.bool false)], args := [d1, d2, d3] }
  | _ => none }
def FnBoundedHoldTellsTheMoveWrongFalsely : Prop := fnBoundedHoldTellsTheMoveRow.holds Trym.pinned (OpenSpec.ofChange fnBoundedHoldTellsTheMoveWrong)

end Rows
end Go.Proofs.Qxb6001385aMods
