/-
  No cell of these rows narrows 'for every input' (looked for: loops, veiled, ifaces, maps, wideKeys, modest, calm, conditions, laid).
  DERIVED. THE GIVEN ROWS OF THIS SEAT. 2 by the template 'for every input the law returns true; each argument reads behind the call as it read before'; 0 by the template 'total and deterministic' (their statements: Qxb6623482aTotals.lean).
  GIVEN WITH THE SEED: the statements are not yours to turn. If you find one false, say at which input.
  Laid BY PROGRAM, IN A SANDBOX (cutbox-rows.mjs): the forced cells as the released guide's own fill.sh prints them over the translation 85cc2fd67e729033… (all of the seat's roots in one cut). By AI agents, Wed Nov 11 2026. No macro, syntax, notation, axiom, sorry.
-/
import Derived.Test.Qxb6623482aChecked
import GoSem.Claim
import GoSem.ClaimJoined
import GoSem.ClaimMapViews
import Derived.JoinedTies
import Derived.KernelRfl
namespace Go.Proofs.Qxb6623482a
/- THE CELL 'sum', in the pinned program and in every row, IS THE sha256 OF THE DUMP (.gsa) THAT Qxb6623482aProg.lean LOADS. Nothing in Lean hashes anything: it is a label: what it is worth is what the hold of that sum in a sandbox is worth. -/
noncomputable def Try.pinned : Pinned := { name := "qxb6623482a", sum := "85cc2fd67e729033377996cd4556e6687df65d3ca9acdb09fe0e1ffb65b067c7", checked := Try.checked }
namespace Rows
def none {H : Type} : Left H := { results := [], args := [] }

/-- 'zzlaws_root_b1.FnContainsIsSegmentPrefix': WHATEVER THE INPUT: true; the input reads as it did. -/
def fnContainsIsSegmentPrefixSpec : ChangeSpec := { name := "fnContainsIsSegmentPrefix", fn := fun _ => fun
  | [d1, d2, d3] => { results := [.lit (.bool true)], args := [d1, d2, d3] }
  | _ => none }
def fnContainsIsSegmentPrefixRow : OpenClaim := { program := "qxb6623482a", sum := "85cc2fd67e729033377996cd4556e6687df65d3ca9acdb09fe0e1ffb65b067c7", func := "example.com/nestlock/nestlock/zzlaws_root_b1.FnContainsIsSegmentPrefix", spec := "fnContainsIsSegmentPrefix", apart := false }
def FnContainsIsSegmentPrefixSaid : Prop := fnContainsIsSegmentPrefixRow.holds Try.pinned (OpenSpec.ofChange fnContainsIsSegmentPrefixSpec)

/-- ITS FALSE NEIGHBOUR: 'it returns false'. Refute it at one input. -/
def fnContainsIsSegmentPrefixWrong : ChangeSpec := { name := "fnContainsIsSegmentPrefix", fn := fun _ => fun
  | [d1, d2, d3] => { results := [.lit (.bool false)], args := [d1, d2, d3] }
  | _ => none }
def FnContainsIsSegmentPrefixWrongFalsely : Prop := fnContainsIsSegmentPrefixRow.holds Try.pinned (OpenSpec.ofChange fnContainsIsSegmentPrefixWrong)

/-- 'zzlaws_root_b1.FnContainsJoinedChildIsBeneath': WHATEVER THE INPUT: true; the input reads as it did. -/
def fnContainsJoinedChildIsBeneathSpec : ChangeSpec := { name := "fnContainsJoinedChildIsBeneath", fn := fun _ => fun
  | [d1, d2] => { results := [.lit (.bool true)], args := [d1, d2] }
  | _ => none }
def fnContainsJoinedChildIsBeneathRow : OpenClaim := { program := "qxb6623482a", sum := "85cc2fd67e729033377996cd4556e6687df65d3ca9acdb09fe0e1ffb65b067c7", func := "example.com/nestlock/nestlock/zzlaws_root_b1.FnContainsJoinedChildIsBeneath", spec := "fnContainsJoinedChildIsBeneath", apart := false }
def FnContainsJoinedChildIsBeneathSaid : Prop := fnContainsJoinedChildIsBeneathRow.holds Try.pinned (OpenSpec.ofChange fnContainsJoinedChildIsBeneathSpec)

/-- ITS FALSE NEIGHBOUR: 'it returns false'. Refute it at one input. -/
def fnContainsJoinedChildIsBeneathWrong : ChangeSpec := { name := "fnContainsJoinedChildIsBeneath", fn := fun _ => fun
  | [d1, d2] => { results := [.lit (.bool false)], args := [d1, d2] }
  | _ => none }
def FnContainsJoinedChildIsBeneathWrongFalsely : Prop := fnContainsJoinedChildIsBeneathRow.holds Try.pinned (OpenSpec.ofChange fnContainsJoinedChildIsBeneathWrong)

end Rows
end Go.Proofs.Qxb6623482a
