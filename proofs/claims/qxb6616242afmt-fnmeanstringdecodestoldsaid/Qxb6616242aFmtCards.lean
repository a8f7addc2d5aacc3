/-
  DERIVED. GIVEN WITH THE SEED: THE CARDS: each row of Qxb6616242aFmtRows.lean that lists a variable, with what it lists TIED to the program's text (the seventh form; the later family's looks); each row that meets fmt, with fmt's text TOLD by the authors' own Lean function (tested against real Go, not proved from fmt's source: count such statements apart). THE CARD IS WHAT COUNTS. Prove the row's statement (the work); the ties are given (Qxb6616242aFmtTie.lean); close each card by the builder's one call (the guide's Derived/Test/ToyasCard.lean, 'card_holds'). Laid BY PROGRAM, IN A SANDBOX (cutbox-door.mjs). By AI agents, Wed Nov 11 2026. No macro, syntax, notation, axiom, sorry.
-/
import Derived.Test.Qxb6616242aFmtRows
import GoSem.ClaimSeven
namespace Go.Proofs.Qxb6616242aFmt
namespace Rows

/-- THE TOLD CARD OF 'zzlaws_conditions_b1.FnMeanStringDecodes'. -/
def fnMeanStringDecodesCard : Claim7 := { stood := { row := fnMeanStringDecodesRow, standIns := [], harness := (true, "fc49ce8db281aed668a0535b94aa08f3463f2a38f4c6cd7c059aef0666d0147e"), looks := false }, told := true, goes := false }
def FnMeanStringDecodesToldSaid : Prop := Claim7.holds Tryf.pinned (.plain (OpenSpec.ofChange fnMeanStringDecodesSpec)) fnMeanStringDecodesCard
/-- ITS FALSE NEIGHBOUR. Refute it at one input. -/
def FnMeanStringDecodesToldWrongFalsely : Prop := Claim7.holds Tryf.pinned (.plain (OpenSpec.ofChange fnMeanStringDecodesWrong)) fnMeanStringDecodesCard

/-- THE TOLD CARD OF 'zzlaws_conditions_b1.FnMeanStringInjective'. -/
def fnMeanStringInjectiveCard : Claim7 := { stood := { row := fnMeanStringInjectiveRow, standIns := [], harness := (true, "fc49ce8db281aed668a0535b94aa08f3463f2a38f4c6cd7c059aef0666d0147e"), looks := false }, told := true, goes := false }
def FnMeanStringInjectiveToldSaid : Prop := Claim7.holds Tryf.pinned (.plain (OpenSpec.ofChange fnMeanStringInjectiveSpec)) fnMeanStringInjectiveCard
/-- ITS FALSE NEIGHBOUR. Refute it at one input. -/
def FnMeanStringInjectiveToldWrongFalsely : Prop := Claim7.holds Tryf.pinned (.plain (OpenSpec.ofChange fnMeanStringInjectiveWrong)) fnMeanStringInjectiveCard
end Rows
end Go.Proofs.Qxb6616242aFmt
