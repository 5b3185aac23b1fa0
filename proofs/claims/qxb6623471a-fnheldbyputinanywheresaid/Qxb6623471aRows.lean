/-
  No cell of these rows narrows 'for every input' (looked for: loops, veiled, ifaces, maps, wideKeys, modest, calm, conditions, laid).
  DERIVED. THE GIVEN ROWS OF THIS SEAT. 1 by the template 'for every input the law returns true; each argument reads behind the call as it read before'; 0 by the template 'total and deterministic' (their statements: Qxb6623471aTotals.lean).
  GIVEN WITH THE SEED: the statements are not yours to turn. If you find one false, say at which input.
  Laid BY PROGRAM, IN A SANDBOX (cutbox-rows.mjs): the forced cells as the released guide's own fill.sh prints them over the translation 88b90ae474556d08… (all of the seat's roots in one cut). By AI agents, Wed Nov 11 2026. No macro, syntax, notation, axiom, sorry.
-/
import Derived.Test.Qxb6623471aChecked
import GoSem.Claim
import GoSem.ClaimJoined
import GoSem.ClaimMapViews
import Derived.JoinedTies
import Derived.KernelRfl
namespace Go.Proofs.Qxb6623471a
/- THE CELL 'sum', in the pinned program and in every row, IS THE sha256 OF THE DUMP (.gsa) THAT Qxb6623471aProg.lean LOADS. Nothing in Lean hashes anything: it is a label: what it is worth is what the hold of that sum in a sandbox is worth. -/
noncomputable def Try.pinned : Pinned := { name := "qxb6623471a", sum := "88b90ae474556d08559004947d7bcf850fe946ae7fca2f21754ae123a2585f55", checked := Try.checked }
namespace Rows
def none {H : Type} : Left H := { results := [], args := [] }

/-- 'zzlaws_internal_replay_b1.FnHeldByPutInAnywhere': WHATEVER THE INPUT: true; the input reads as it did. -/
def fnHeldByPutInAnywhereSpec : ChangeSpec := { name := "fnHeldByPutInAnywhere", fn := fun _ => fun
  | [d1, d2, d3, d4] => { results := [.lit (.bool true)], args := [d1, d2, d3, d4] }
  | _ => none }
def fnHeldByPutInAnywhereRow : OpenClaim := { program := "qxb6623471a", sum := "88b90ae474556d08559004947d7bcf850fe946ae7fca2f21754ae123a2585f55", func := "example.com/tenure/tenure/zzlaws_internal_replay_b1.FnHeldByPutInAnywhere", spec := "fnHeldByPutInAnywhere", apart := false }
def FnHeldByPutInAnywhereSaid : Prop := fnHeldByPutInAnywhereRow.holds Try.pinned (OpenSpec.ofChange fnHeldByPutInAnywhereSpec)

/-- ITS FALSE NEIGHBOUR: 'it returns false'. Refute it at one input. -/
def fnHeldByPutInAnywhereWrong : ChangeSpec := { name := "fnHeldByPutInAnywhere", fn := fun _ => fun
  | [d1, d2, d3, d4] => { results := [.lit (.bool false)], args := [d1, d2, d3, d4] }
  | _ => none }
def FnHeldByPutInAnywhereWrongFalsely : Prop := fnHeldByPutInAnywhereRow.holds Try.pinned (OpenSpec.ofChange fnHeldByPutInAnywhereWrong)

end Rows
end Go.Proofs.Qxb6623471a
