/-
  No cell of these rows narrows 'for every input' (looked for: loops, veiled, ifaces, maps, wideKeys, modest, calm, conditions, laid).
  DERIVED. THE GIVEN ROWS OF THIS SEAT. 2 by the template 'for every input the law returns true; each argument reads behind the call as it read before'; 0 by the template 'total and deterministic' (their statements: Qxb6616242aFmtTotals.lean).
  GIVEN WITH THE SEED: the statements are not yours to turn. If you find one false, say at which input.
  Laid BY PROGRAM, IN A SANDBOX (cutbox-rows.mjs): the forced cells as the released guide's own fill.sh prints them over the translation 1b11a79c4a378993… (all of the seat's roots in one cut). By AI agents, Wed Nov 11 2026. No macro, syntax, notation, axiom, sorry.
-/
import Derived.Test.Qxb6616242aFmtChecked
import GoSem.Claim
import GoSem.ClaimJoined
import GoSem.ClaimMapViews
import Derived.JoinedTies
import Derived.KernelRfl
namespace Go.Proofs.Qxb6616242aFmt
/- THE CELL 'sum', in the pinned program and in every row, IS THE sha256 OF THE DUMP (.gsa) THAT Qxb6616242aFmtProg.lean LOADS. Nothing in Lean hashes anything: it is a label: what it is worth is what the hold of that sum in a sandbox is worth. -/
noncomputable def Tryf.pinned : Pinned := { name := "qxb6616242afmt", sum := "1b11a79c4a378993cf0e9c61f7ff4c67ecc052fb51531b82f7dc7392691098c6", checked := Tryf.checked }
namespace Rows
def none {H : Type} : Left H := { results := [], args := [] }

/-- 'zzlaws_conditions_b1.FnMeanStringDecodes': WHATEVER THE INPUT: true; the input reads as it did. -/
def fnMeanStringDecodesSpec : ChangeSpec := { name := "fnMeanStringDecodes", fn := fun _ => fun
  | [d1, d2] => { results := [.lit (.bool true)], args := [d1, d2] }
  | _ => none }
def fnMeanStringDecodesRow : OpenClaim := { program := "qxb6616242afmt", sum := "1b11a79c4a378993cf0e9c61f7ff4c67ecc052fb51531b82f7dc7392691098c6", func := "example.com/vestline/vestline/zzlaws_conditions_b1.FnMeanStringDecodes", spec := "fnMeanStringDecodes", stops := ["fmt.Sprintf"], inPlace := ["fmt.Sprintf"], apart := false }
/-- NO THEOREM (fmt's text is open here; it may be false): for the released tool's asking of the row's closed facts alone. THE STATEMENT IS 'FnMeanStringDecodesToldSaid' (Qxb6616242aFmtCards.lean). -/
def FnMeanStringDecodesFormAsk : Prop := fnMeanStringDecodesRow.holds Tryf.pinned (OpenSpec.ofChange fnMeanStringDecodesSpec)

/-- ITS FALSE NEIGHBOUR: 'it returns false'. Refute it at one input. -/
def fnMeanStringDecodesWrong : ChangeSpec := { name := "fnMeanStringDecodes", fn := fun _ => fun
  | [d1, d2] => { results := [.lit (.bool false)], args := [d1, d2] }
  | _ => none }
def FnMeanStringDecodesWrongFormAsk : Prop := fnMeanStringDecodesRow.holds Tryf.pinned (OpenSpec.ofChange fnMeanStringDecodesWrong)

/-- 'zzlaws_conditions_b1.FnMeanStringInjective': WHATEVER THE INPUT: true; the input reads as it did. -/
def fnMeanStringInjectiveSpec : ChangeSpec := { name := "fnMeanStringInjective", fn := fun _ => fun
  | [d1, d2, d3, d4] => { results := [.lit (.bool true)], args := [d1, d2, d3, d4] }
  | _ => none }
def fnMeanStringInjectiveRow : OpenClaim := { program := "qxb6616242afmt", sum := "1b11a79c4a378993cf0e9c61f7ff4c67ecc052fb51531b82f7dc7392691098c6", func := "example.com/vestline/vestline/zzlaws_conditions_b1.FnMeanStringInjective", spec := "fnMeanStringInjective", stops := ["fmt.Sprintf"], inPlace := ["fmt.Sprintf"], apart := false }
/-- NO THEOREM (fmt's text is open here; it may be false): for the released tool's asking of the row's closed facts alone. THE STATEMENT IS 'FnMeanStringInjectiveToldSaid' (Qxb6616242aFmtCards.lean). -/
def FnMeanStringInjectiveFormAsk : Prop := fnMeanStringInjectiveRow.holds Tryf.pinned (OpenSpec.ofChange fnMeanStringInjectiveSpec)

/-- ITS FALSE NEIGHBOUR: 'it returns false'. Refute it at one input. -/
def fnMeanStringInjectiveWrong : ChangeSpec := { name := "fnMeanStringInjective", fn := fun _ => fun
  | [d1, d2, d3, d4] => { results := [.lit (.bool false)], args := [d1, d2, d3, d4] }
  | _ => none }
def FnMeanStringInjectiveWrongFormAsk : Prop := fnMeanStringInjectiveRow.holds Tryf.pinned (OpenSpec.ofChange fnMeanStringInjectiveWrong)

end Rows
end Go.Proofs.Qxb6616242aFmt
