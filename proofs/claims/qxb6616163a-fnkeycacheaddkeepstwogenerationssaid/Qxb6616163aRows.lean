/-
  No cell of these rows narrows 'for every input' (looked for: loops, veiled, ifaces, maps, wideKeys, modest, calm, conditions, laid).
  DERIVED. THE GIVEN ROWS OF THIS SEAT. 2 by the template 'for every input the law returns true; each argument reads behind the call as it read before'; 0 by the template 'total and deterministic' (their statements: Qxb6616163aTotals.lean).
  GIVEN WITH THE SEED: the statements are not yours to turn. If you find one false, say at which input.
  Laid BY PROGRAM, IN A SANDBOX (cutbox-rows.mjs): the forced cells as the released guide's own fill.sh prints them over the translation 903f072425c92e1a… (all of the seat's roots in one cut). By AI agents, Wed Nov 11 2026. No macro, syntax, notation, axiom, sorry.
-/
import Derived.Test.Qxb6616163aChecked
import GoSem.Claim
import GoSem.ClaimJoined
import GoSem.ClaimMapViews
import Derived.JoinedTies
import Derived.KernelRfl
namespace Go.Proofs.Qxb6616163a
/- THE CELL 'sum', in the pinned program and in every row, IS THE sha256 OF THE DUMP (.gsa) THAT Qxb6616163aProg.lean LOADS. Nothing in Lean hashes anything: it is a label: what it is worth is what the hold of that sum in a sandbox is worth. -/
noncomputable def Try.pinned : Pinned := { name := "qxb6616163a", sum := "903f072425c92e1a2d5feafe35bb6dd9622e0141e0df4a4ba8dfa42f3eb389d2", checked := Try.checked }
namespace Rows
def none {H : Type} : Left H := { results := [], args := [] }

/-- 'zzlaws_root_b1.FnKeyCacheAddKeepsTwoGenerations': WHATEVER THE INPUT: true; the input reads as it did. -/
def fnKeyCacheAddKeepsTwoGenerationsSpec : ChangeSpec := { name := "fnKeyCacheAddKeepsTwoGenerations", fn := fun _ => fun
  | [d] => { results := [.lit (.bool true)], args := [d] }
  | _ => none }
def fnKeyCacheAddKeepsTwoGenerationsRow : OpenClaim := { program := "qxb6616163a", sum := "903f072425c92e1a2d5feafe35bb6dd9622e0141e0df4a4ba8dfa42f3eb389d2", func := "example.com/countersign/countersign/zzlaws_root_b1.FnKeyCacheAddKeepsTwoGenerations", spec := "fnKeyCacheAddKeepsTwoGenerations", plainKeys := false, apart := false }
def FnKeyCacheAddKeepsTwoGenerationsSaid : Prop := fnKeyCacheAddKeepsTwoGenerationsRow.holds Try.pinned (OpenSpec.ofChange fnKeyCacheAddKeepsTwoGenerationsSpec)

/-- ITS FALSE NEIGHBOUR: 'it returns false'. Refute it at one input. -/
def fnKeyCacheAddKeepsTwoGenerationsWrong : ChangeSpec := { name := "fnKeyCacheAddKeepsTwoGenerations", fn := fun _ => fun
  | [d] => { results := [.lit (.bool false)], args := [d] }
  | _ => none }
def FnKeyCacheAddKeepsTwoGenerationsWrongFalsely : Prop := fnKeyCacheAddKeepsTwoGenerationsRow.holds Try.pinned (OpenSpec.ofChange fnKeyCacheAddKeepsTwoGenerationsWrong)

/-- 'zzlaws_root_b1.FnKeyCacheKeepsKeyThrough512Adds': WHATEVER THE INPUT: true; the input reads as it did. -/
def fnKeyCacheKeepsKeyThrough512AddsSpec : ChangeSpec := { name := "fnKeyCacheKeepsKeyThrough512Adds", fn := fun _ => fun
  | [d1, d2, d3] => { results := [.lit (.bool true)], args := [d1, d2, d3] }
  | _ => none }
def fnKeyCacheKeepsKeyThrough512AddsRow : OpenClaim := { program := "qxb6616163a", sum := "903f072425c92e1a2d5feafe35bb6dd9622e0141e0df4a4ba8dfa42f3eb389d2", func := "example.com/countersign/countersign/zzlaws_root_b1.FnKeyCacheKeepsKeyThrough512Adds", spec := "fnKeyCacheKeepsKeyThrough512Adds", plainKeys := false, apart := false }
def FnKeyCacheKeepsKeyThrough512AddsSaid : Prop := fnKeyCacheKeepsKeyThrough512AddsRow.holds Try.pinned (OpenSpec.ofChange fnKeyCacheKeepsKeyThrough512AddsSpec)

/-- ITS FALSE NEIGHBOUR: 'it returns false'. Refute it at one input. -/
def fnKeyCacheKeepsKeyThrough512AddsWrong : ChangeSpec := { name := "fnKeyCacheKeepsKeyThrough512Adds", fn := fun _ => fun
  | [d1, d2, d3] => { results := [.lit (.bool false)], args := [d1, d2, d3] }
  | _ => none }
def FnKeyCacheKeepsKeyThrough512AddsWrongFalsely : Prop := fnKeyCacheKeepsKeyThrough512AddsRow.holds Try.pinned (OpenSpec.ofChange fnKeyCacheKeepsKeyThrough512AddsWrong)

end Rows
end Go.Proofs.Qxb6616163a
