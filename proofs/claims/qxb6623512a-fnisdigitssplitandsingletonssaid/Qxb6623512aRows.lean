/-
  No cell of these rows narrows 'for every input' (looked for: loops, veiled, ifaces, maps, wideKeys, modest, calm, conditions, laid).
  DERIVED. THE GIVEN ROWS OF THIS SEAT. 1 by the template 'for every input the law returns true; each argument reads behind the call as it read before'; 0 by the template 'total and deterministic' (their statements: Qxb6623512aTotals.lean).
  GIVEN WITH THE SEED: the statements are not yours to turn. If you find one false, say at which input.
  Laid BY PROGRAM, IN A SANDBOX (cutbox-rows.mjs): the forced cells as the released guide's own fill.sh prints them over the translation 026cb0f6d870cdc0… (all of the seat's roots in one cut). By AI agents, Wed Nov 11 2026. No macro, syntax, notation, axiom, sorry.
-/
import Derived.Test.Qxb6623512aChecked
import GoSem.Claim
import GoSem.ClaimJoined
import GoSem.ClaimMapViews
import Derived.JoinedTies
import Derived.KernelRfl
namespace Go.Proofs.Qxb6623512a
/- THE CELL 'sum', in the pinned program and in every row, IS THE sha256 OF THE DUMP (.gsa) THAT Qxb6623512aProg.lean LOADS. Nothing in Lean hashes anything: it is a label: what it is worth is what the hold of that sum in a sandbox is worth. -/
noncomputable def Try.pinned : Pinned := { name := "qxb6623512a", sum := "026cb0f6d870cdc0a735d6ac32a080f97d52f834ab67e4de7f4f0b3a5cacfc48", checked := Try.checked }
namespace Rows
def none {H : Type} : Left H := { results := [], args := [] }

/-- 'zzlaws_root_b1.FnIsDigitsSplitAndSingletons': WHATEVER THE INPUT: true; the input reads as it did. -/
def fnIsDigitsSplitAndSingletonsSpec : ChangeSpec := { name := "fnIsDigitsSplitAndSingletons", fn := fun _ => fun
  | [d1, d2] => { results := [.lit (.bool true)], args := [d1, d2] }
  | _ => none }
def fnIsDigitsSplitAndSingletonsRow : OpenClaim := { program := "qxb6623512a", sum := "026cb0f6d870cdc0a735d6ac32a080f97d52f834ab67e4de7f4f0b3a5cacfc48", func := "example.com/ratebook/ratebook/zzlaws_root_b1.FnIsDigitsSplitAndSingletons", spec := "fnIsDigitsSplitAndSingletons", apart := false }
def FnIsDigitsSplitAndSingletonsSaid : Prop := fnIsDigitsSplitAndSingletonsRow.holds Try.pinned (OpenSpec.ofChange fnIsDigitsSplitAndSingletonsSpec)

/-- ITS FALSE NEIGHBOUR: 'it returns false'. Refute it at one input. -/
def fnIsDigitsSplitAndSingletonsWrong : ChangeSpec := { name := "fnIsDigitsSplitAndSingletons", fn := fun _ => fun
  | [d1, d2] => { results := [.lit (.bool false)], args := [d1, d2] }
  | _ => none }
def FnIsDigitsSplitAndSingletonsWrongFalsely : Prop := fnIsDigitsSplitAndSingletonsRow.holds Try.pinned (OpenSpec.ofChange fnIsDigitsSplitAndSingletonsWrong)

end Rows
end Go.Proofs.Qxb6623512a
