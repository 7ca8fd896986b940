/-
  DERIVED. GIVEN WITH THE SEED: THE CARDS: each row of Qxb6613733aFmtRows.lean that lists a variable, with what it lists TIED to the program's text (the seventh form; the later family's looks); each row that meets fmt, with fmt's text TOLD by the authors' own Lean function (tested against real Go, not proved from fmt's source: count such statements apart). THE CARD IS WHAT COUNTS. Prove the row's statement (the work); the ties are given (Qxb6613733aFmtTie.lean); close each card by the builder's one call (the guide's Derived/Test/ToyasCard.lean, 'card_holds'). Laid BY PROGRAM, IN A SANDBOX (cutbox-door.mjs). By AI agents, Wed Nov 11 2026. No macro, syntax, notation, axiom, sorry.
-/
import Derived.Test.Qxb6613733aFmtRows
import GoSem.ClaimSeven
namespace Go.Proofs.Qxb6613733aFmt
namespace Rows

/-- THE TOLD CARD OF 'zzlaws_pkg_params_b1.FnRepeatsPrefixIsAnotherValue'. -/
def fnRepeatsPrefixIsAnotherValueCard : Claim7 := { stood := { row := fnRepeatsPrefixIsAnotherValueRow, standIns := [], harness := (true, "642f4821333a1676ffcc0874f2a5258baa89669b89a4c584ed0879b6d2d738f1"), looks := true }, told := true, goes := false }
def FnRepeatsPrefixIsAnotherValueToldSaid : Prop := Claim7.holds Tryf.pinned (.plain (OpenSpec.ofChange fnRepeatsPrefixIsAnotherValueSpec)) fnRepeatsPrefixIsAnotherValueCard
/-- ITS FALSE NEIGHBOUR. Refute it at one input. -/
def FnRepeatsPrefixIsAnotherValueToldWrongFalsely : Prop := Claim7.holds Tryf.pinned (.plain (OpenSpec.ofChange fnRepeatsPrefixIsAnotherValueWrong)) fnRepeatsPrefixIsAnotherValueCard
end Rows
end Go.Proofs.Qxb6613733aFmt
