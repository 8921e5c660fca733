/-
  No cell of these rows narrows 'for every input' (looked for: loops, veiled, ifaces, maps, wideKeys, modest, calm, conditions, laid).
  DERIVED. THE GIVEN ROWS OF THIS SEAT. 3 by the template 'for every input the law returns true; each argument reads behind the call as it read before'; 0 by the template 'total and deterministic' (their statements: Qxb6604163aTotals.lean).
  GIVEN WITH THE SEED: the statements are not yours to turn. If you find one false, say at which input.
  Laid BY PROGRAM, IN A SANDBOX (cutbox-rows.mjs): the forced cells as the released guide's own fill.sh prints them over the translation bc8b040bb71e39a7… (all of the seat's roots in one cut). By AI agents, Wed Nov 11 2026. No macro, syntax, notation, axiom, sorry.
-/
import Derived.Test.Qxb6604163aChecked
import GoSem.Claim
import GoSem.ClaimJoined
import GoSem.ClaimMapViews
import Derived.JoinedTies
import Derived.KernelRfl
namespace Go.Proofs.Qxb6604163a
/- THE CELL 'sum', in the pinned program and in every row, IS THE sha256 OF THE DUMP (.gsa) THAT Qxb6604163aProg.lean LOADS. Nothing in Lean hashes anything: it is a label: what it is worth is what the hold of that sum in a sandbox is worth. -/
noncomputable def Try.pinned : Pinned := { name := "qxb6604163a", sum := "bc8b040bb71e39a7902a63a32dea0516f52108a04f3eb62025310ae74271a4fa", checked := Try.checked }
namespace Rows
def none {H : Type} : Left H := { results := [], args := [] }

/-- 'zzlaws_internal_label_b1.FnMergeIsTrimmedPartwiseMax': WHATEVER THE INPUT: true; the input reads as it did. -/
def fnMergeIsTrimmedPartwiseMaxSpec : ChangeSpec := { name := "fnMergeIsTrimmedPartwiseMax", fn := fun _ => fun
  | [d1, d2] => { results := [.lit (.bool true)], args := [d1, d2] }
  | _ => none }
def fnMergeIsTrimmedPartwiseMaxRow : OpenClaim := { program := "qxb6604163a", sum := "bc8b040bb71e39a7902a63a32dea0516f52108a04f3eb62025310ae74271a4fa", func := "example.com/quorumtide/quorumtide/zzlaws_internal_label_b1.FnMergeIsTrimmedPartwiseMax", spec := "fnMergeIsTrimmedPartwiseMax", apart := false }
def FnMergeIsTrimmedPartwiseMaxSaid : Prop := fnMergeIsTrimmedPartwiseMaxRow.holds Try.pinned (OpenSpec.ofChange fnMergeIsTrimmedPartwiseMaxSpec)

/-- ITS FALSE NEIGHBOUR: 'it returns false'. Refute it at one input. -/
def fnMergeIsTrimmedPartwiseMaxWrong : ChangeSpec := { name := "fnMergeIsTrimmedPartwiseMax", fn := fun _ => fun
  | [d1, d2] => { results := [.lit (.bool false)], args := [d1, d2] }
  | _ => none }
def FnMergeIsTrimmedPartwiseMaxWrongFalsely : Prop := fnMergeIsTrimmedPartwiseMaxRow.holds Try.pinned (OpenSpec.ofChange fnMergeIsTrimmedPartwiseMaxWrong)

/-- 'zzlaws_internal_label_b1.FnMergeIsLeastUpperBound': WHATEVER THE INPUT: true; the input reads as it did. -/
def fnMergeIsLeastUpperBoundSpec : ChangeSpec := { name := "fnMergeIsLeastUpperBound", fn := fun _ => fun
  | [d1, d2, d3] => { results := [.lit (.bool true)], args := [d1, d2, d3] }
  | _ => none }
def fnMergeIsLeastUpperBoundRow : OpenClaim := { program := "qxb6604163a", sum := "bc8b040bb71e39a7902a63a32dea0516f52108a04f3eb62025310ae74271a4fa", func := "example.com/quorumtide/quorumtide/zzlaws_internal_label_b1.FnMergeIsLeastUpperBound", spec := "fnMergeIsLeastUpperBound", apart := false }
def FnMergeIsLeastUpperBoundSaid : Prop := fnMergeIsLeastUpperBoundRow.holds Try.pinned (OpenSpec.ofChange fnMergeIsLeastUpperBoundSpec)

/-- ITS FALSE NEIGHBOUR: 'it returns false'. Refute it at one input. -/
def fnMergeIsLeastUpperBoundWrong : ChangeSpec := { name := "fnMergeIsLeastUpperBound", fn := fun _ => fun
  | [d1, d2, d3] => { results := [.lit (.bool false)], args := [d1, d2, d3] }
  | _ => none }
def FnMergeIsLeastUpperBoundWrongFalsely : Prop := fnMergeIsLeastUpperBoundRow.holds Try.pinned (OpenSpec.ofChange fnMergeIsLeastUpperBoundWrong)

/-- 'zzlaws_internal_label_b1.FnCoversIsPartialOrder': WHATEVER THE INPUT: true; the input reads as it did. -/
def fnCoversIsPartialOrderSpec : ChangeSpec := { name := "fnCoversIsPartialOrder", fn := fun _ => fun
  | [d1, d2, d3] => { results := [.lit (.bool true)], args := [d1, d2, d3] }
  | _ => none }
def fnCoversIsPartialOrderRow : OpenClaim := { program := "qxb6604163a", sum := "bc8b040bb71e39a7902a63a32dea0516f52108a04f3eb62025310ae74271a4fa", func := "example.com/quorumtide/quorumtide/zzlaws_internal_label_b1.FnCoversIsPartialOrder", spec := "fnCoversIsPartialOrder", apart := false }
def FnCoversIsPartialOrderSaid : Prop := fnCoversIsPartialOrderRow.holds Try.pinned (OpenSpec.ofChange fnCoversIsPartialOrderSpec)

/-- ITS FALSE NEIGHBOUR: 'it returns false'. Refute it at one input. -/
def fnCoversIsPartialOrderWrong : ChangeSpec := { name := "fnCoversIsPartialOrder", fn := fun _ => fun
  | [d1, d2, d3] => { results := [.lit (.bool false)], args := [d1, d2, d3] }
  | _ => none }
def FnCoversIsPartialOrderWrongFalsely : Prop := fnCoversIsPartialOrderRow.holds Try.pinned (OpenSpec.ofChange fnCoversIsPartialOrderWrong)

end Rows
end Go.Proofs.Qxb6604163a
