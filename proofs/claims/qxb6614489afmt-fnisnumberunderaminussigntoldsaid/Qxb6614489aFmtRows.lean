/-
  No cell of these rows narrows 'for every input' (looked for: loops, veiled, ifaces, maps, wideKeys, modest, calm, conditions, laid).
  DERIVED. THE GIVEN ROWS OF THIS SEAT. 1 by the template 'for every input the law returns true; each argument reads behind the call as it read before'; 0 by the template 'total and deterministic' (their statements: Qxb6614489aFmtTotals.lean).
  GIVEN WITH THE SEED: the statements are not yours to turn. If you find one false, say at which input.
  Laid BY PROGRAM, IN A SANDBOX (cutbox-rows.mjs): the forced cells as the released guide's own fill.sh prints them over the translation 90c7094ba349f0c3… (all of the seat's roots in one cut). By AI agents, Wed Nov 11 2026. No macro, syntax, notation, axiom, sorry.
-/
import Derived.Test.Qxb6614489aFmtChecked
import GoSem.Claim
import GoSem.ClaimJoined
import GoSem.ClaimMapViews
import Derived.JoinedTies
import Derived.KernelRfl
namespace Go.Proofs.Qxb6614489aFmt
/- THE CELL 'sum', in the pinned program and in every row, IS THE sha256 OF THE DUMP (.gsa) THAT Qxb6614489aFmtProg.lean LOADS. Nothing in Lean hashes anything: it is a label: what it is worth is what the hold of that sum in a sandbox is worth. -/
noncomputable def Tryf.pinned : Pinned := { name := "qxb6614489afmt", sum := "90c7094ba349f0c320c371e8b8e3e49234e42b3226fa78efb4fc773ae7e5e266", checked := Tryf.checked }
namespace Rows
def none {H : Type} : Left H := { results := [], args := [] }

/-- 'zzlaws_graphql_b1.FnIsNumberUnderAMinusSign': WHATEVER THE INPUT: true; the input reads as it did. -/
def fnIsNumberUnderAMinusSignSpec : ChangeSpec := { name := "fnIsNumberUnderAMinusSign", fn := fun _ => fun
  | [d] => { results := [.lit (.bool true)], args := [d] }
  | _ => none }
def fnIsNumberUnderAMinusSignRow : OpenClaim := { program := "qxb6614489afmt", sum := "90c7094ba349f0c320c371e8b8e3e49234e42b3226fa78efb4fc773ae7e5e266", func := "example.com/quiltgate/quiltgate/zzlaws_graphql_b1.FnIsNumberUnderAMinusSign", spec := "fnIsNumberUnderAMinusSign", stops := ["fmt.errorf"], inPlace := ["fmt.errorf"], apart := false }
/-- NO THEOREM (fmt's text is open here; it may be false): for the released tool's asking of the row's closed facts alone. THE STATEMENT IS 'FnIsNumberUnderAMinusSignToldSaid' (Qxb6614489aFmtCards.lean). -/
def FnIsNumberUnderAMinusSignFormAsk : Prop := fnIsNumberUnderAMinusSignRow.holds Tryf.pinned (OpenSpec.ofChange fnIsNumberUnderAMinusSignSpec)

/-- ITS FALSE NEIGHBOUR: 'it returns false'. Refute it at one input. -/
def fnIsNumberUnderAMinusSignWrong : ChangeSpec := { name := "fnIsNumberUnderAMinusSign", fn := fun _ => fun
  | [d] => { results := [.lit (.bool false)], args := [d] }
  | _ => none }
def FnIsNumberUnderAMinusSignWrongFormAsk : Prop := fnIsNumberUnderAMinusSignRow.holds Tryf.pinned (OpenSpec.ofChange fnIsNumberUnderAMinusSignWrong)

end Rows
end Go.Proofs.Qxb6614489aFmt
