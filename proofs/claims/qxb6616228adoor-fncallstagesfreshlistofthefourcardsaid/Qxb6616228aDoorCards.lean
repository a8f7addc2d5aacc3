/-
  DERIVED. GIVEN WITH THE SEED: THE CARDS: each row of Qxb6616228aDoorRows.lean that lists a variable, with what it lists TIED to the program's text (the seventh form; the later family's looks); each row that meets fmt, with fmt's text TOLD by the authors' own Lean function (tested against real Go, not proved from fmt's source: count such statements apart). THE CARD IS WHAT COUNTS. Prove the row's statement (the work); the ties are given (Qxb6616228aDoorTie.lean); close each card by the builder's one call (the guide's Derived/Test/ToyasCard.lean, 'card_holds'). Laid BY PROGRAM, IN A SANDBOX (cutbox-door.mjs). By AI agents, Wed Nov 11 2026. No macro, syntax, notation, axiom, sorry.
-/
import Derived.Test.Qxb6616228aDoorRows
import GoSem.ClaimSeven
namespace Go.Proofs.Qxb6616228aDoor
namespace Rows

/-- THE TIED CARD OF 'zzlaws_policy_b1.FnCallStagesFreshListOfTheFour'. -/
def fnCallStagesFreshListOfTheFourCard : Claim7 := { stood := { row := fnCallStagesFreshListOfTheFourRow, standIns := [], harness := (true, "5e5b4b51475d543df1de2041d3cb7cbf2dca9aaef60399157e3830e09447cb37"), looks := false }, kinds := [], alts := [], laidByText := true, laidKinds := [.widerDeep], laidTests := true, laidLooks := .later }
def FnCallStagesFreshListOfTheFourCardSaid : Prop := Claim7.holds Tryd.pinned (.plain (OpenSpec.ofChange fnCallStagesFreshListOfTheFourSpec)) fnCallStagesFreshListOfTheFourCard
end Rows
end Go.Proofs.Qxb6616228aDoor
