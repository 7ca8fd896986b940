/-
  No cell of these rows narrows 'for every input' (looked for: loops, veiled, ifaces, maps, wideKeys, modest, calm, conditions, laid).
  DERIVED. THE GIVEN ROWS OF THIS SEAT. 3 by the template 'for every input the law returns true; each argument reads behind the call as it read before'; 0 by the template 'total and deterministic' (their statements: Qxb6615028aTotals.lean).
  GIVEN WITH THE SEED: the statements are not yours to turn. If you find one false, say at which input.
  Laid BY PROGRAM, IN A SANDBOX (cutbox-rows.mjs): the forced cells as the released guide's own fill.sh prints them over the translation e7b516c1cc5a8556… (all of the seat's roots in one cut). By AI agents, Wed Nov 11 2026. No macro, syntax, notation, axiom, sorry.
-/
import Derived.Test.Qxb6615028aChecked
import GoSem.Claim
import GoSem.ClaimJoined
import GoSem.ClaimMapViews
import Derived.JoinedTies
import Derived.KernelRfl
namespace Go.Proofs.Qxb6615028a
/- THE CELL 'sum', in the pinned program and in every row, IS THE sha256 OF THE DUMP (.gsa) THAT Qxb6615028aProg.lean LOADS. Nothing in Lean hashes anything: it is a label: what it is worth is what the hold of that sum in a sandbox is worth. -/
noncomputable def Try.pinned : Pinned := { name := "qxb6615028a", sum := "e7b516c1cc5a8556ddd62fcacd540f8f023684af50a9c94c7c3b4fc1170635bd", checked := Try.checked }
namespace Rows
def none {H : Type} : Left H := { results := [], args := [] }

/-- 'zzlaws_internal_lint_b1.FnWithoutIntoModel': WHATEVER THE INPUT: true; the input reads as it did. -/
def fnWithoutIntoModelSpec : ChangeSpec := { name := "fnWithoutIntoModel", fn := fun _ => fun
  | [d] => { results := [.lit (.bool true)], args := [d] }
  | _ => none }
def fnWithoutIntoModelRow : OpenClaim := { program := "qxb6615028a", sum := "e7b516c1cc5a8556ddd62fcacd540f8f023684af50a9c94c7c3b4fc1170635bd", func := "example.com/stagger/stagger/zzlaws_internal_lint_b1.FnWithoutIntoModel", spec := "fnWithoutIntoModel", apart := false }
def FnWithoutIntoModelSaid : Prop := fnWithoutIntoModelRow.holds Try.pinned (OpenSpec.ofChange fnWithoutIntoModelSpec)

/-- ITS FALSE NEIGHBOUR: 'it returns false'. Refute it at one input. -/
def fnWithoutIntoModelWrong : ChangeSpec := { name := "fnWithoutIntoModel", fn := fun _ => fun
  | [d] => { results := [.lit (.bool false)], args := [d] }
  | _ => none }
def FnWithoutIntoModelWrongFalsely : Prop := fnWithoutIntoModelRow.holds Try.pinned (OpenSpec.ofChange fnWithoutIntoModelWrong)

/-- 'zzlaws_internal_lint_b1.FnOpensAgreesWithSkip': WHATEVER THE INPUT: true; the input reads as it did. -/
def fnOpensAgreesWithSkipSpec : ChangeSpec := { name := "fnOpensAgreesWithSkip", fn := fun _ => fun
  | [d1, d2, d3] => { results := [.lit (.bool true)], args := [d1, d2, d3] }
  | _ => none }
def fnOpensAgreesWithSkipRow : OpenClaim := { program := "qxb6615028a", sum := "e7b516c1cc5a8556ddd62fcacd540f8f023684af50a9c94c7c3b4fc1170635bd", func := "example.com/stagger/stagger/zzlaws_internal_lint_b1.FnOpensAgreesWithSkip", spec := "fnOpensAgreesWithSkip", apart := false }
def FnOpensAgreesWithSkipSaid : Prop := fnOpensAgreesWithSkipRow.holds Try.pinned (OpenSpec.ofChange fnOpensAgreesWithSkipSpec)

/-- ITS FALSE NEIGHBOUR: 'it returns false'. Refute it at one input. -/
def fnOpensAgreesWithSkipWrong : ChangeSpec := { name := "fnOpensAgreesWithSkip", fn := fun _ => fun
  | [d1, d2, d3] => { results := [.lit (.bool false)], args := [d1, d2, d3] }
  | _ => none }
def FnOpensAgreesWithSkipWrongFalsely : Prop := fnOpensAgreesWithSkipRow.holds Try.pinned (OpenSpec.ofChange fnOpensAgreesWithSkipWrong)

/-- 'zzlaws_internal_lint_b1.FnWithoutIntoAfterPrefix': WHATEVER THE INPUT: true; the input reads as it did. -/
def fnWithoutIntoAfterPrefixSpec : ChangeSpec := { name := "fnWithoutIntoAfterPrefix", fn := fun _ => fun
  | [d1, d2] => { results := [.lit (.bool true)], args := [d1, d2] }
  | _ => none }
def fnWithoutIntoAfterPrefixRow : OpenClaim := { program := "qxb6615028a", sum := "e7b516c1cc5a8556ddd62fcacd540f8f023684af50a9c94c7c3b4fc1170635bd", func := "example.com/stagger/stagger/zzlaws_internal_lint_b1.FnWithoutIntoAfterPrefix", spec := "fnWithoutIntoAfterPrefix", apart := false }
def FnWithoutIntoAfterPrefixSaid : Prop := fnWithoutIntoAfterPrefixRow.holds Try.pinned (OpenSpec.ofChange fnWithoutIntoAfterPrefixSpec)

/-- ITS FALSE NEIGHBOUR: 'it returns false'. Refute it at one input. -/
def fnWithoutIntoAfterPrefixWrong : ChangeSpec := { name := "fnWithoutIntoAfterPrefix", fn := fun _ => fun
  | [d1, d2] => { results := [.lit (.bool false)], args := [d1, d2] }
  | _ => none }
def FnWithoutIntoAfterPrefixWrongFalsely : Prop := fnWithoutIntoAfterPrefixRow.holds Try.pinned (OpenSpec.ofChange fnWithoutIntoAfterPrefixWrong)

end Rows
end Go.Proofs.Qxb6615028a
