/-
  No cell of these rows narrows 'for every input' (looked for: loops, veiled, ifaces, maps, wideKeys, modest, calm, conditions, laid).
  DERIVED. THE GIVEN ROWS OF THIS SEAT. 2 by the template 'for every input the law returns true; each argument reads behind the call as it read before'; 0 by the template 'total and deterministic' (their statements: Qxb6623516aTotals.lean).
  GIVEN WITH THE SEED: the statements are not yours to turn. If you find one false, say at which input.
  Laid BY PROGRAM, IN A SANDBOX (cutbox-rows.mjs): the forced cells as the released guide's own fill.sh prints them over the translation d4d619574d872228… (all of the seat's roots in one cut). By AI agents, Wed Nov 11 2026. No macro, syntax, notation, axiom, sorry.
-/
import Derived.Test.Qxb6623516aChecked
import GoSem.Claim
import GoSem.ClaimJoined
import GoSem.ClaimMapViews
import Derived.JoinedTies
import Derived.KernelRfl
namespace Go.Proofs.Qxb6623516a
/- THE CELL 'sum', in the pinned program and in every row, IS THE sha256 OF THE DUMP (.gsa) THAT Qxb6623516aProg.lean LOADS. Nothing in Lean hashes anything: it is a label: what it is worth is what the hold of that sum in a sandbox is worth. -/
noncomputable def Try.pinned : Pinned := { name := "qxb6623516a", sum := "d4d619574d87222855b230c99e049f27233bf3c943ee2934f62f053607e3c600", checked := Try.checked }
namespace Rows
def none {H : Type} : Left H := { results := [], args := [] }

/-- 'zzlaws_internal_xsdregex_b1.FnSplitClosedForm': WHATEVER THE INPUT: true; the input reads as it did. -/
def fnSplitClosedFormSpec : ChangeSpec := { name := "fnSplitClosedForm", fn := fun _ => fun
  | [d1, d2, d3, d4] => { results := [.lit (.bool true)], args := [d1, d2, d3, d4] }
  | _ => none }
def fnSplitClosedFormRow : OpenClaim := { program := "qxb6623516a", sum := "d4d619574d87222855b230c99e049f27233bf3c943ee2934f62f053607e3c600", func := "example.com/modelwright/modelwright/zzlaws_internal_xsdregex_b1.FnSplitClosedForm", spec := "fnSplitClosedForm", apart := false }
def FnSplitClosedFormSaid : Prop := fnSplitClosedFormRow.holds Try.pinned (OpenSpec.ofChange fnSplitClosedFormSpec)

/-- ITS FALSE NEIGHBOUR: 'it returns false'. Refute it at one input. -/
def fnSplitClosedFormWrong : ChangeSpec := { name := "fnSplitClosedForm", fn := fun _ => fun
  | [d1, d2, d3, d4] => { results := [.lit (.bool false)], args := [d1, d2, d3, d4] }
  | _ => none }
def FnSplitClosedFormWrongFalsely : Prop := fnSplitClosedFormRow.holds Try.pinned (OpenSpec.ofChange fnSplitClosedFormWrong)

/-- 'zzlaws_internal_xsdregex_b1.FnSplitAddsUpWithinWeight': WHATEVER THE INPUT: true; the input reads as it did. -/
def fnSplitAddsUpWithinWeightSpec : ChangeSpec := { name := "fnSplitAddsUpWithinWeight", fn := fun _ => fun
  | [d1, d2, d3, d4] => { results := [.lit (.bool true)], args := [d1, d2, d3, d4] }
  | _ => none }
def fnSplitAddsUpWithinWeightRow : OpenClaim := { program := "qxb6623516a", sum := "d4d619574d87222855b230c99e049f27233bf3c943ee2934f62f053607e3c600", func := "example.com/modelwright/modelwright/zzlaws_internal_xsdregex_b1.FnSplitAddsUpWithinWeight", spec := "fnSplitAddsUpWithinWeight", apart := false }
def FnSplitAddsUpWithinWeightSaid : Prop := fnSplitAddsUpWithinWeightRow.holds Try.pinned (OpenSpec.ofChange fnSplitAddsUpWithinWeightSpec)

/-- ITS FALSE NEIGHBOUR: 'it returns false'. Refute it at one input. -/
def fnSplitAddsUpWithinWeightWrong : ChangeSpec := { name := "fnSplitAddsUpWithinWeight", fn := fun _ => fun
  | [d1, d2, d3, d4] => { results := [.lit (.bool false)], args := [d1, d2, d3, d4] }
  | _ => none }
def FnSplitAddsUpWithinWeightWrongFalsely : Prop := fnSplitAddsUpWithinWeightRow.holds Try.pinned (OpenSpec.ofChange fnSplitAddsUpWithinWeightWrong)

end Rows
end Go.Proofs.Qxb6623516a
