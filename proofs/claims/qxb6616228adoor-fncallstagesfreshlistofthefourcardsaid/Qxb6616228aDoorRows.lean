/-
  NARROWER THAN 'FOR EVERY INPUT', by the rows' own cells (each row's printed sentence says how): FnCallStagesFreshListOfTheFour: laid.
  DERIVED. THE GIVEN ROWS OF THIS SEAT. 1 by the template 'for every input the law returns true; each argument reads behind the call as it read before'; 0 by the template 'total and deterministic' (their statements: Qxb6616228aDoorTotals.lean).
  GIVEN WITH THE SEED: the statements are not yours to turn. If you find one false, say at which input.
  Laid BY PROGRAM, IN A SANDBOX (cutbox-rows.mjs): the forced cells as the released guide's own fill.sh prints them over the translation 375d71ddbc264cb4… (all of the seat's roots in one cut). By AI agents, Wed Nov 11 2026. No macro, syntax, notation, axiom, sorry.
-/
import Derived.Test.Qxb6616228aDoorChecked
import GoSem.Claim
import GoSem.ClaimJoined
import GoSem.ClaimMapViews
import Derived.JoinedTies
import Derived.KernelRfl
namespace Go.Proofs.Qxb6616228aDoor
/- THE CELL 'sum', in the pinned program and in every row, IS THE sha256 OF THE DUMP (.gsa) THAT Qxb6616228aDoorProg.lean LOADS. Nothing in Lean hashes anything: it is a label: what it is worth is what the hold of that sum in a sandbox is worth. -/
noncomputable def Tryd.pinned : Pinned := { name := "qxb6616228adoor", sum := "375d71ddbc264cb49216ab491cdb6b6f3f6b94c0067f4d814e5f34e077b2784e", checked := Tryd.checked }
namespace Rows
def none {H : Type} : Left H := { results := [], args := [] }

/- WHAT THE LISTED PACKAGE-LEVEL VARIABLES READ AS WHEN THE CALL BEGINS. Each datum BY PROGRAM (the guide's laid-datum.mjs) off the statement by which the dump's own 'gosem.cut.vars' lays the variable. In a bare row this is a premise. The card (Qxb6616228aDoorCards.lean) ties it to the program's text. -/
def laid_example_com_callwarden_callwarden_policy_callStages {H : Type} : DataW H := .slice [.lit (.string [105, 110, 98, 111, 117, 110, 100]), .lit (.string [114, 101, 115, 112, 111, 110, 115, 101]), .lit (.string [109, 99, 112]), .lit (.string [101, 103, 114, 101, 115, 115])] []

/-- 'zzlaws_policy_b1.FnCallStagesFreshListOfTheFour': WHATEVER THE INPUT: true; the input reads as it did. -/
def fnCallStagesFreshListOfTheFourSpec : ChangeSpec := { name := "fnCallStagesFreshListOfTheFour", vars := ["example.com/callwarden/callwarden/policy.callStages"], fn := fun _ => fun
  | [g1] => { results := [.lit (.bool true)], args := [], vars := [g1] }
  | _ => none }
def fnCallStagesFreshListOfTheFourRow : OpenClaim := { program := "qxb6616228adoor", sum := "375d71ddbc264cb49216ab491cdb6b6f3f6b94c0067f4d814e5f34e077b2784e", func := "example.com/callwarden/callwarden/zzlaws_policy_b1.FnCallStagesFreshListOfTheFour", spec := "fnCallStagesFreshListOfTheFour", named := ["example.com/callwarden/callwarden/policy.callStages"], apart := false, laid := [("example.com/callwarden/callwarden/policy.callStages", laid_example_com_callwarden_callwarden_policy_callStages)] }
def FnCallStagesFreshListOfTheFourSaid : Prop := fnCallStagesFreshListOfTheFourRow.holds Tryd.pinned (OpenSpec.ofChange fnCallStagesFreshListOfTheFourSpec)

/-- ITS FALSE NEIGHBOUR: 'it returns false'. Refute it at one input. -/
def fnCallStagesFreshListOfTheFourWrong : ChangeSpec := { name := "fnCallStagesFreshListOfTheFour", vars := ["example.com/callwarden/callwarden/policy.callStages"], fn := fun _ => fun
  | [g1] => { results := [.lit (.bool false)], args := [], vars := [g1] }
  | _ => none }
def FnCallStagesFreshListOfTheFourWrongFalsely : Prop := fnCallStagesFreshListOfTheFourRow.holds Tryd.pinned (OpenSpec.ofChange fnCallStagesFreshListOfTheFourWrong)

end Rows
end Go.Proofs.Qxb6616228aDoor
