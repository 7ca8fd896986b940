/-
  No cell of these rows narrows 'for every input' (looked for: loops, veiled, ifaces, maps, wideKeys, modest, calm, conditions, laid).
  DERIVED. THE GIVEN ROWS OF THIS SEAT. 3 by the template 'for every input the law returns true; each argument reads behind the call as it read before'; 0 by the template 'total and deterministic' (their statements: Qxb6614489aTotals.lean).
  GIVEN WITH THE SEED: the statements are not yours to turn. If you find one false, say at which input.
  Laid BY PROGRAM, IN A SANDBOX (cutbox-rows.mjs): the forced cells as the released guide's own fill.sh prints them over the translation f0b1c41a68aaa3ad… (all of the seat's roots in one cut). By AI agents, Wed Nov 11 2026. No macro, syntax, notation, axiom, sorry.
-/
import Derived.Test.Qxb6614489aChecked
import GoSem.Claim
import GoSem.ClaimJoined
import GoSem.ClaimMapViews
import Derived.JoinedTies
import Derived.KernelRfl
namespace Go.Proofs.Qxb6614489a
/- THE CELL 'sum', in the pinned program and in every row, IS THE sha256 OF THE DUMP (.gsa) THAT Qxb6614489aProg.lean LOADS. Nothing in Lean hashes anything: it is a label: what it is worth is what the hold of that sum in a sandbox is worth. -/
noncomputable def Try.pinned : Pinned := { name := "qxb6614489a", sum := "f0b1c41a68aaa3adad7d73099c881c0689539edb4e7840bb32ed4ef16a93d162", checked := Try.checked }
namespace Rows
def none {H : Type} : Left H := { results := [], args := [] }

/-- 'zzlaws_graphql_b1.FnRepeatIsTheCountDoneNTimes': WHATEVER THE INPUT: true; the input reads as it did. -/
def fnRepeatIsTheCountDoneNTimesSpec : ChangeSpec := { name := "fnRepeatIsTheCountDoneNTimes", fn := fun _ => fun
  | [d1, d2, d3] => { results := [.lit (.bool true)], args := [d1, d2, d3] }
  | _ => none }
def fnRepeatIsTheCountDoneNTimesRow : OpenClaim := { program := "qxb6614489a", sum := "f0b1c41a68aaa3adad7d73099c881c0689539edb4e7840bb32ed4ef16a93d162", func := "example.com/quiltgate/quiltgate/zzlaws_graphql_b1.FnRepeatIsTheCountDoneNTimes", spec := "fnRepeatIsTheCountDoneNTimes", unfollowed := true, recurses := true, apart := false }
def FnRepeatIsTheCountDoneNTimesSaid : Prop := fnRepeatIsTheCountDoneNTimesRow.holds Try.pinned (OpenSpec.ofChange fnRepeatIsTheCountDoneNTimesSpec)

/-- ITS FALSE NEIGHBOUR: 'it returns false'. Refute it at one input. -/
def fnRepeatIsTheCountDoneNTimesWrong : ChangeSpec := { name := "fnRepeatIsTheCountDoneNTimes", fn := fun _ => fun
  | [d1, d2, d3] => { results := [.lit (.bool false)], args := [d1, d2, d3] }
  | _ => none }
def FnRepeatIsTheCountDoneNTimesWrongFalsely : Prop := fnRepeatIsTheCountDoneNTimesRow.holds Try.pinned (OpenSpec.ofChange fnRepeatIsTheCountDoneNTimesWrong)

/-- 'zzlaws_graphql_b1.FnRepeatSplitsAtAnyCut': WHATEVER THE INPUT: true; the input reads as it did. -/
def fnRepeatSplitsAtAnyCutSpec : ChangeSpec := { name := "fnRepeatSplitsAtAnyCut", fn := fun _ => fun
  | [d1, d2, d3, d4] => { results := [.lit (.bool true)], args := [d1, d2, d3, d4] }
  | _ => none }
def fnRepeatSplitsAtAnyCutRow : OpenClaim := { program := "qxb6614489a", sum := "f0b1c41a68aaa3adad7d73099c881c0689539edb4e7840bb32ed4ef16a93d162", func := "example.com/quiltgate/quiltgate/zzlaws_graphql_b1.FnRepeatSplitsAtAnyCut", spec := "fnRepeatSplitsAtAnyCut", unfollowed := true, recurses := true, apart := false }
def FnRepeatSplitsAtAnyCutSaid : Prop := fnRepeatSplitsAtAnyCutRow.holds Try.pinned (OpenSpec.ofChange fnRepeatSplitsAtAnyCutSpec)

/-- ITS FALSE NEIGHBOUR: 'it returns false'. Refute it at one input. -/
def fnRepeatSplitsAtAnyCutWrong : ChangeSpec := { name := "fnRepeatSplitsAtAnyCut", fn := fun _ => fun
  | [d1, d2, d3, d4] => { results := [.lit (.bool false)], args := [d1, d2, d3, d4] }
  | _ => none }
def FnRepeatSplitsAtAnyCutWrongFalsely : Prop := fnRepeatSplitsAtAnyCutRow.holds Try.pinned (OpenSpec.ofChange fnRepeatSplitsAtAnyCutWrong)

/-- 'zzlaws_graphql_b1.FnWithinHoldsExactlyUpToTheBound': WHATEVER THE INPUT: true; the input reads as it did. -/
def fnWithinHoldsExactlyUpToTheBoundSpec : ChangeSpec := { name := "fnWithinHoldsExactlyUpToTheBound", fn := fun _ => fun
  | [d1, d2] => { results := [.lit (.bool true)], args := [d1, d2] }
  | _ => none }
def fnWithinHoldsExactlyUpToTheBoundRow : OpenClaim := { program := "qxb6614489a", sum := "f0b1c41a68aaa3adad7d73099c881c0689539edb4e7840bb32ed4ef16a93d162", func := "example.com/quiltgate/quiltgate/zzlaws_graphql_b1.FnWithinHoldsExactlyUpToTheBound", spec := "fnWithinHoldsExactlyUpToTheBound", apart := false }
def FnWithinHoldsExactlyUpToTheBoundSaid : Prop := fnWithinHoldsExactlyUpToTheBoundRow.holds Try.pinned (OpenSpec.ofChange fnWithinHoldsExactlyUpToTheBoundSpec)

/-- ITS FALSE NEIGHBOUR: 'it returns false'. Refute it at one input. -/
def fnWithinHoldsExactlyUpToTheBoundWrong : ChangeSpec := { name := "fnWithinHoldsExactlyUpToTheBound", fn := fun _ => fun
  | [d1, d2] => { results := [.lit (.bool false)], args := [d1, d2] }
  | _ => none }
def FnWithinHoldsExactlyUpToTheBoundWrongFalsely : Prop := fnWithinHoldsExactlyUpToTheBoundRow.holds Try.pinned (OpenSpec.ofChange fnWithinHoldsExactlyUpToTheBoundWrong)

end Rows
end Go.Proofs.Qxb6614489a
