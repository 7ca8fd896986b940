/-
  No cell of these rows narrows 'for every input' (looked for: loops, veiled, ifaces, maps, wideKeys, modest, calm, conditions, laid).
  DERIVED. THE GIVEN ROWS OF THIS SEAT. 1 by the template 'for every input the law returns true; each argument reads behind the call as it read before'; 0 by the template 'total and deterministic' (their statements: Qxb6613733aFmtTotals.lean).
  GIVEN WITH THE SEED: the statements are not yours to turn. If you find one false, say at which input.
  Laid BY PROGRAM, IN A SANDBOX (cutbox-rows.mjs): the forced cells as the released guide's own fill.sh prints them over the translation be983515c95f9563… (all of the seat's roots in one cut). By AI agents, Wed Nov 11 2026. No macro, syntax, notation, axiom, sorry.
-/
import Derived.Test.Qxb6613733aFmtChecked
import GoSem.Claim
import GoSem.ClaimJoined
import GoSem.ClaimMapViews
import Derived.JoinedTies
import Derived.KernelRfl
namespace Go.Proofs.Qxb6613733aFmt
/- THE CELL 'sum', in the pinned program and in every row, IS THE sha256 OF THE DUMP (.gsa) THAT Qxb6613733aFmtProg.lean LOADS. Nothing in Lean hashes anything: it is a label: what it is worth is what the hold of that sum in a sandbox is worth. -/
noncomputable def Tryf.pinned : Pinned := { name := "qxb6613733afmt", sum := "be983515c95f9563bf33b3d30dc635852027322c2d3f99422fcadf99d0ef7798", checked := Tryf.checked }
namespace Rows
def none {H : Type} : Left H := { results := [], args := [] }

/-- 'zzlaws_pkg_params_b1.FnRepeatsPrefixIsAnotherValue': WHATEVER THE INPUT: true; the input reads as it did. -/
def fnRepeatsPrefixIsAnotherValueSpec : ChangeSpec := { name := "fnRepeatsPrefixIsAnotherValue", fn := fun _ => fun
  | [d1, d2, d3, d4, d5] => { results := [.lit (.bool true)], args := [d1, d2, d3, d4, d5] }
  | _ => none }
def fnRepeatsPrefixIsAnotherValueRow : OpenClaim := { program := "qxb6613733afmt", sum := "be983515c95f9563bf33b3d30dc635852027322c2d3f99422fcadf99d0ef7798", func := "example.com/stagebook/stagebook/zzlaws_pkg_params_b1.FnRepeatsPrefixIsAnotherValue", spec := "fnRepeatsPrefixIsAnotherValue", stops := ["fmt.errorf"], inPlace := ["fmt.errorf"], plainKeys := false, apart := false }
/-- NO THEOREM (fmt's text is open here; it may be false): for the released tool's asking of the row's closed facts alone. THE STATEMENT IS 'FnRepeatsPrefixIsAnotherValueToldSaid' (Qxb6613733aFmtCards.lean). -/
def FnRepeatsPrefixIsAnotherValueFormAsk : Prop := fnRepeatsPrefixIsAnotherValueRow.holds Tryf.pinned (OpenSpec.ofChange fnRepeatsPrefixIsAnotherValueSpec)

/-- ITS FALSE NEIGHBOUR: 'it returns false'. Refute it at one input. -/
def fnRepeatsPrefixIsAnotherValueWrong : ChangeSpec := { name := "fnRepeatsPrefixIsAnotherValue", fn := fun _ => fun
  | [d1, d2, d3, d4, d5] => { results := [.lit (.bool false)], args := [d1, d2, d3, d4, d5] }
  | _ => none }
def FnRepeatsPrefixIsAnotherValueWrongFormAsk : Prop := fnRepeatsPrefixIsAnotherValueRow.holds Tryf.pinned (OpenSpec.ofChange fnRepeatsPrefixIsAnotherValueWrong)

end Rows
end Go.Proofs.Qxb6613733aFmt
