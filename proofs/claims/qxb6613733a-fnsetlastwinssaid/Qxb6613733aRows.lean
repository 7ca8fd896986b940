/-
  No cell of these rows narrows 'for every input' (looked for: loops, veiled, ifaces, maps, wideKeys, modest, calm, conditions, laid).
  DERIVED. THE GIVEN ROWS OF THIS SEAT. 2 by the template 'for every input the law returns true; each argument reads behind the call as it read before'; 0 by the template 'total and deterministic' (their statements: Qxb6613733aTotals.lean).
  GIVEN WITH THE SEED: the statements are not yours to turn. If you find one false, say at which input.
  Laid BY PROGRAM, IN A SANDBOX (cutbox-rows.mjs): the forced cells as the released guide's own fill.sh prints them over the translation 18b2dc92964870de… (all of the seat's roots in one cut). By AI agents, Wed Nov 11 2026. No macro, syntax, notation, axiom, sorry.
-/
import Derived.Test.Qxb6613733aChecked
import GoSem.Claim
import GoSem.ClaimJoined
import GoSem.ClaimMapViews
import Derived.JoinedTies
import Derived.KernelRfl
namespace Go.Proofs.Qxb6613733a
/- THE CELL 'sum', in the pinned program and in every row, IS THE sha256 OF THE DUMP (.gsa) THAT Qxb6613733aProg.lean LOADS. Nothing in Lean hashes anything: it is a label: what it is worth is what the hold of that sum in a sandbox is worth. -/
noncomputable def Try.pinned : Pinned := { name := "qxb6613733a", sum := "18b2dc92964870dede086c5bff0a2fa3653ba4f9539490d61e1b0557c29ab3fa", checked := Try.checked }
namespace Rows
def none {H : Type} : Left H := { results := [], args := [] }

/-- 'zzlaws_pkg_params_b1.FnSetThenGet': WHATEVER THE INPUT: true; the input reads as it did. -/
def fnSetThenGetSpec : ChangeSpec := { name := "fnSetThenGet", fn := fun _ => fun
  | [d1, d2, d3, d4] => { results := [.lit (.bool true)], args := [d1, d2, d3, d4] }
  | _ => none }
def fnSetThenGetRow : OpenClaim := { program := "qxb6613733a", sum := "18b2dc92964870dede086c5bff0a2fa3653ba4f9539490d61e1b0557c29ab3fa", func := "example.com/stagebook/stagebook/zzlaws_pkg_params_b1.FnSetThenGet", spec := "fnSetThenGet", apart := false }
def FnSetThenGetSaid : Prop := fnSetThenGetRow.holds Try.pinned (OpenSpec.ofChange fnSetThenGetSpec)

/-- ITS FALSE NEIGHBOUR: 'it returns false'. Refute it at one input. -/
def fnSetThenGetWrong : ChangeSpec := { name := "fnSetThenGet", fn := fun _ => fun
  | [d1, d2, d3, d4] => { results := [.lit (.bool false)], args := [d1, d2, d3, d4] }
  | _ => none }
def FnSetThenGetWrongFalsely : Prop := fnSetThenGetRow.holds Try.pinned (OpenSpec.ofChange fnSetThenGetWrong)

/-- 'zzlaws_pkg_params_b1.FnSetLastWins': WHATEVER THE INPUT: true; the input reads as it did. -/
def fnSetLastWinsSpec : ChangeSpec := { name := "fnSetLastWins", fn := fun _ => fun
  | [d1, d2, d3, d4, d5] => { results := [.lit (.bool true)], args := [d1, d2, d3, d4, d5] }
  | _ => none }
def fnSetLastWinsRow : OpenClaim := { program := "qxb6613733a", sum := "18b2dc92964870dede086c5bff0a2fa3653ba4f9539490d61e1b0557c29ab3fa", func := "example.com/stagebook/stagebook/zzlaws_pkg_params_b1.FnSetLastWins", spec := "fnSetLastWins", apart := false }
def FnSetLastWinsSaid : Prop := fnSetLastWinsRow.holds Try.pinned (OpenSpec.ofChange fnSetLastWinsSpec)

/-- ITS FALSE NEIGHBOUR: 'it returns false'. Refute it at one input. -/
def fnSetLastWinsWrong : ChangeSpec := { name := "fnSetLastWins", fn := fun _ => fun
  | [d1, d2, d3, d4, d5] => { results := [.lit (.bool false)], args := [d1, d2, d3, d4, d5] }
  | _ => none }
def FnSetLastWinsWrongFalsely : Prop := fnSetLastWinsRow.holds Try.pinned (OpenSpec.ofChange fnSetLastWinsWrong)

end Rows
end Go.Proofs.Qxb6613733a
