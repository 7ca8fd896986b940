/-
  DERIVED. GIVEN WITH THE SEED: THE CARDS: each row of Qxb6614489aFmtRows.lean that lists a variable, with what it lists TIED to the program's text (the seventh form; the later family's looks); each row that meets fmt, with fmt's text TOLD by the authors' own Lean function (tested against real Go, not proved from fmt's source: count such statements apart). THE CARD IS WHAT COUNTS. Prove the row's statement (the work); the ties are given (Qxb6614489aFmtTie.lean); close each card by the builder's one call (the guide's Derived/Test/ToyasCard.lean, 'card_holds'). Laid BY PROGRAM, IN A SANDBOX (cutbox-door.mjs). By AI agents, Wed Nov 11 2026. No macro, syntax, notation, axiom, sorry.
-/
import Derived.Test.Qxb6614489aFmtRows
import GoSem.ClaimSeven
namespace Go.Proofs.Qxb6614489aFmt
namespace Rows

/-- THE TOLD CARD OF 'zzlaws_graphql_b1.FnIsNumberUnderAMinusSign'. -/
def fnIsNumberUnderAMinusSignCard : Claim7 := { stood := { row := fnIsNumberUnderAMinusSignRow, standIns := [], harness := (true, "34b13801e1bbf262675a0563c27f0a3eb81db32ab888254e4c5040364fd8e40d"), looks := false }, told := true, goes := false }
def FnIsNumberUnderAMinusSignToldSaid : Prop := Claim7.holds Tryf.pinned (.plain (OpenSpec.ofChange fnIsNumberUnderAMinusSignSpec)) fnIsNumberUnderAMinusSignCard
/-- ITS FALSE NEIGHBOUR. Refute it at one input. -/
def FnIsNumberUnderAMinusSignToldWrongFalsely : Prop := Claim7.holds Tryf.pinned (.plain (OpenSpec.ofChange fnIsNumberUnderAMinusSignWrong)) fnIsNumberUnderAMinusSignCard
end Rows
end Go.Proofs.Qxb6614489aFmt
