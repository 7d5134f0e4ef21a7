/-
  No cell of these rows narrows 'for every input' (looked for: loops, veiled, ifaces, maps, wideKeys, modest, calm, conditions, laid).
  DERIVED. THE GIVEN ROWS OF THIS SEAT. 1 by the template 'for every input the law returns true; each argument reads behind the call as it read before'; 0 by the template 'total and deterministic' (their statements: Qxb6605513aModsTotals.lean).
  GIVEN WITH THE SEED: the statements are not yours to turn. If you find one false, say at which input.
  Laid BY PROGRAM, IN A SANDBOX (cutbox-rows.mjs): the forced cells as the released guide's own fill.sh prints them over the translation 947b297030d4e67a… (all of the seat's roots in one cut). By AI agents, Wed Nov 11 2026. No macro, syntax, notation, axiom, sorry.
-/
import Derived.Test.Qxb6605513aModsChecked
import GoSem.Claim
import GoSem.ClaimJoined
import GoSem.ClaimMapViews
import Derived.JoinedTies
import Derived.KernelRfl
namespace Go.Proofs.Qxb6605513aMods
/- THE CELL 'sum', in the pinned program and in every row, IS THE sha256 OF THE DUMP (.gsa) THAT Qxb6605513aModsProg.lean LOADS. Nothing in Lean hashes anything: it is a label: what it is worth is what the hold of that sum in a sandbox is worth. -/
noncomputable def Trym.pinned : Pinned := { name := "qxb6605513amods", sum := "947b297030d4e67aaea7741d3afb0f7f9eb898601ed1035db1d3d1a0c2b9caec", checked := Trym.checked }
namespace Rows
def none {H : Type} : Left H := { results := [], args := [] }

/-- 'zzlaws_root_b1.FnNewPolicyCompilerUnknownThenMissing': WHATEVER THE INPUT: true; the input reads as it did. -/
def fnNewPolicyCompilerUnknownThenMissingSpec : ChangeSpec := { name := "fnNewPolicyCompilerUnknownThenMissing", fn := fun _ => fun
  | [d1, d2, d3, d4, d5, d6, d7, d8] => { results := [.lit (.bool true)], args := [d1, d2, d3, d4, d5, d6, d7, d8] }
  | _ => none }
def fnNewPolicyCompilerUnknownThenMissingRow : OpenClaim := { program := "qxb6605513amods", sum := "947b297030d4e67aaea7741d3afb0f7f9eb898601ed1035db1d3d1a0c2b9caec", func := "example.com/palisade/palisade/zzlaws_root_b1.FnNewPolicyCompilerUnknownThenMissing", spec := "fnNewPolicyCompilerUnknownThenMissing", make := .lifted ["publicsums"], apart := false }
def FnNewPolicyCompilerUnknownThenMissingSaid : Prop := fnNewPolicyCompilerUnknownThenMissingRow.holds Trym.pinned (OpenSpec.ofChange fnNewPolicyCompilerUnknownThenMissingSpec)

/-- ITS FALSE NEIGHBOUR: 'it returns false'. Refute it at one input. -/
def fnNewPolicyCompilerUnknownThenMissingWrong : ChangeSpec := { name := "fnNewPolicyCompilerUnknownThenMissing", fn := fun _ => fun
  | [d1, d2, d3, d4, d5, d6, d7, d8] => { results := [.lit (.bool false)], args := [d1, d2, d3, d4, d5, d6, d7, d8] }
  | _ => none }
def FnNewPolicyCompilerUnknownThenMissingWrongFalsely : Prop := fnNewPolicyCompilerUnknownThenMissingRow.holds Trym.pinned (OpenSpec.ofChange fnNewPolicyCompilerUnknownThenMissingWrong)

end Rows
end Go.Proofs.Qxb6605513aMods
