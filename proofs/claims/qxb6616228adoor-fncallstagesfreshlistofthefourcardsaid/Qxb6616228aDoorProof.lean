/-
  THE ROW AND THE TIED CARD 'Rows.FnCallStagesFreshListOfTheFourCardSaid', proved out of the law's walk ('law_all').
-/
import Derived.Test.Qxb6616228aDoorLaw
import Derived.Test.Qxb6616228aDoorCards
import Derived.Test.Qxb6616228aDoorTie
import Derived.ProofKit
import Derived.LaidMore
import Derived.OpenVars
import Derived.OpenShut
import Derived.Stop.Joined
import Derived.SevenTiedAt
namespace Go.Proofs.Qxb6616228aDoor
open Go.ChangeShapes Go.WideShapes Go.ChangeAt Go.WideElems Go.RowKit

theorem own : ownKnob Tryd.prog.godebug = none := by kernel_rfl
theorem laidOut : laidOutB Tryd.prog = true := by kernel_rfl
theorem gStages : Rows.fnCallStagesFreshListOfTheFourSpec.vars.head?.bind Tryd.prog.globalNamed = some 0 := by kernel_rfl
theorem tStages : (Tryd.prog.globals[0]?).map (·.type) = some 22 := by kernel_rfl
theorem cells25 : Tryd.prog.cellsOf 25 = 1 := by kernel_rfl

/-- The door's own heap meets the condition. -/
theorem door_met (os : Os) (args : Array Value) : laidMetH Tryd.prog Rows.fnCallStagesFreshListOfTheFourRow.laid ((World.doorLaid Tryd.prog 600 os).forCall (fun _ _ => 0) ⟨#[], args, []⟩).memory :=
  laidMetH_of_parts3 (fuel := 8) (laidMet_of_run' 8 (by kernel_rfl) (by kernel_rfl)) (by kernel_rfl) (by kernel_rfl)

theorem string_of {b : ByteArray} {l : List UInt8} (h : b.data.toList = l) : b = ⟨l.toArray⟩ := by
  cases b with
  | mk d => cases d; cases h; rfl

/-- WHAT THE CONDITION GIVES THE WALK: the variable's cell and the four names. -/
theorem of_laid {W : World} (h : laidMetH Tryd.prog Rows.fnCallStagesFreshListOfTheFourRow.laid W) : ∃ b off cap, W.cell? ⟨0, 0, none⟩ = some (.slice (some ⟨b, off, none⟩) 4 cap) ∧ Four W b off := by
  rw [MakeChecks.laidMetH_plain _ _ _ (by kernel_rfl)] at h
  obtain ⟨ps, ⟨g0, t0, cs0, f0, p0, q0, hg0, ht0, hv0, hd0, _, _⟩, _, _⟩ := h
  obtain rfl := Option.some.inj (gStages.symm.trans hg0)
  obtain rfl := Option.some.inj (tStages.symm.trans ht0)
  obtain ⟨a, cap, hcs, _, hel⟩ := open_row Tryd.underlying22 cells25 hd0
  obtain ⟨v0, n0, r0, hc0, hr0⟩ := hel 0 _ rfl
  obtain ⟨v1, n1, r1, hc1, hr1⟩ := hel 1 _ rfl
  obtain ⟨v2, n2, r2, hc2, hr2⟩ := hel 2 _ rfl
  obtain ⟨v3, n3, r3, hc3, hr3⟩ := hel 3 _ rfl
  obtain ⟨s0, k0, x0, _⟩ := DataW.trod_string Tryd.underlying25 hr0
  obtain ⟨s1, k1, x1, _⟩ := DataW.trod_string Tryd.underlying25 hr1
  obtain ⟨s2, k2, x2, _⟩ := DataW.trod_string Tryd.underlying25 hr2
  obtain ⟨s3, k3, x3, _⟩ := DataW.trod_string Tryd.underlying25 hr3
  simp only [List.cons.injEq, and_true] at k0 k1 k2 k3
  simp only [Prod.mk.injEq, DataW.lit.injEq, Lit.string.injEq] at x0 x1 x2 x3
  obtain rfl := string_of x0.1.symm
  obtain rfl := string_of x1.1.symm
  obtain rfl := string_of x2.1.symm
  obtain rfl := string_of x3.1.symm
  subst k0 k1 k2 k3
  obtain ⟨b, off, spot⟩ := a
  have hspot : spot = none := by simpa [Addr.add] using World.cell?_spot hc0
  subst hspot
  refine ⟨b, off, cap, ?_, by simpa [Addr.add] using hc0, by simpa [Addr.add] using hc1, by simpa [Addr.add] using hc2, by simpa [Addr.add] using hc3⟩
  have := World.var?_cell hg0 hv0 0
  rw [Array.eq_one_of_toList hcs] at this
  simpa using this

set_option maxRecDepth 100000 in
theorem lifted (os : Os) (started : os.Started) (H : Type) (enc : TypeId × Value → H) :
    ReturnsInHanded {} Tryd.checked os 3 .any (fun w args => (Rows.fnCallStagesFreshListOfTheFourSpec.pre enc Tryd.prog Tryd.f3 [] false w args ∧ laidMetH Tryd.prog Rows.fnCallStagesFreshListOfTheFourRow.laid w) ∧ sizedMet enc Tryd.prog Tryd.f3 (OpenSpec.ofChange Rows.fnCallStagesFreshListOfTheFourSpec) false w args)
      (Rows.fnCallStagesFreshListOfTheFourSpec.post enc Tryd.prog Tryd.f3 false true false false) := by
  refine returnsInHanded_of_change_and (C := Tryd.checked) (X := fun w _ => laidMetH Tryd.prog Rows.fnCallStagesFreshListOfTheFourRow.laid w) (fun _ _ _ hh h => h.of_heap hh) own started (by kernel_rfl) Tryd.func3
    (ChangeSpec.witness_shaped (enc := enc) (C := Tryd.checked) (os := os) (X := fun w _ => laidMetH Tryd.prog Rows.fnCallStagesFreshListOfTheFourRow.laid w) false (World.doorLaid Tryd.prog 600 os) #[] 8 rfl (World.shaped_of_RefB (by kernel_rfl) (by kernel_rfl)) (by kernel_rfl) (by kernel_rfl) (by kernel_rfl) (door_met os _)) ?_
  intro W base args ds gs before hval0 hW _ _ hL _
  have hW' := hW
  obtain ⟨p, q, hA0, hV0, rfl, hfz, hnd⟩ := hW
  have hA : DataW.TrodAll enc Tryd.prog W 0 (fun _ => true) true Tryd.f3.params.toList args.toList ds p := hA0
  have hV : DataW.TrodVars enc Tryd.prog W (fun _ => true) Rows.fnCallStagesFreshListOfTheFourSpec.vars gs q := hV0
  rw [Tryd.params3] at hA
  obtain ⟨rfl, rfl, rfl⟩ := trodAll_none hA
  obtain ⟨b, off, cap, hc, hF⟩ := of_laid hL
  obtain ⟨g, rfl⟩ : ∃ g, gs = [g] := by
    obtain ⟨_, _, _, _, d, _, rfl, _⟩ := trodVars_one hV
    exact ⟨d, rfl⟩
  clear hA0 hV0 hval0
  refine (law_all b off cap W hc hF).mono fun e W' ⟨he, hB⟩ => ?_
  subst he
  refine ⟨_, rfl, _, _, _, [], [], q, hW', ?_, ?_, ?_, hB.frame _, fun h => by cases h⟩
  · exact trodAll_mk1 (shut_bool Tryd.underlying4 true)
  · rfl
  · exact Below.trodVars laidOut hB (by kernel_rfl) hV

theorem row_holds : Rows.FnCallStagesFreshListOfTheFourSaid :=
  OpenClaim.holds_of_wide 3 Tryd.f3 rfl rfl rfl rfl rfl rfl rfl ⟨rfl, rfl, rfl, rfl, rfl⟩ rfl rfl rfl rfl rfl (by kernel_rfl) Tryd.func3 (by kernel_rfl)
    (of_decide_eq_true (by kernel_rfl)) (by unfold Func.isWrapper; first | (rw [if_pos (by decide +kernel)]; kernel_rfl) | (rw [if_neg (by decide +kernel)]; exact ⟨rfl, rfl⟩))
    (fun os started H enc _ => lifted os started H enc)

theorem stagesProved : Rows.FnCallStagesFreshListOfTheFourCardSaid :=
  Claim7.holds_tied_plain_at .later [] [.widerDeep] true (true, "5e5b4b51475d543df1de2041d3cb7cbf2dca9aaef60399157e3830e09447cb37") false
    row_holds (fun _ h => by cases h) (by kernel_rfl) (fun _ h => by cases h) fnCallStagesFreshListOfTheFour_row_tie rfl ⟨rfl, rfl⟩ (by kernel_rfl) rfl
    (fun f fn hf hfn => by
      obtain rfl : f = 3 := Option.some.inj ((show Tryd.prog.funcNamed Rows.fnCallStagesFreshListOfTheFourRow.func = some 3 by kernel_rfl).symm.trans hf) |>.symm
      obtain rfl : fn = Tryd.f3 := (Option.some.inj (Tryd.func3.symm.trans hfn)).symm
      exact ⟨by kernel_rfl, fun j t ht => by
        rw [Tryd.params3] at ht
        simp at ht⟩)
    (by kernel_rfl)

end Go.Proofs.Qxb6616228aDoor
