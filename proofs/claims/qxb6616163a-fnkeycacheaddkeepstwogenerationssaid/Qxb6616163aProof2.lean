/-
  Seat b6616163a: 'Rows.FnKeyCacheAddKeepsTwoGenerationsSaid', proved out of the law's walk ('law2').
-/
import Derived.Test.Qxb6616163aRows
import Derived.Test.Qxb6616163aOpen
import Derived.Test.Qxb6616163aLaw2
namespace Go.Proofs.Qxb6616163a
open Go.ChangeShapes Go.WideShapes Go.ChangeAt Go.RowKit

theorem own2 : ownKnob Try.prog.godebug = none := by kernel_rfl

set_option maxRecDepth 100000 in
theorem lifted2 (os : Os) (started : os.Started) (H : Type) (enc : TypeId × Value → H) :
    ReturnsInHanded {} Try.checked os 3 .any (Rows.fnKeyCacheAddKeepsTwoGenerationsSpec.pre6 enc Try.prog Try.f3 Rows.fnKeyCacheAddKeepsTwoGenerationsRow.domain false) (Rows.fnKeyCacheAddKeepsTwoGenerationsSpec.post enc Try.prog Try.f3 false true false false) := by
  refine returnsInHanded_of_change_sized (C := Try.checked) own2 started (by kernel_rfl) Try.func3
    (ChangeSpec.witness6 (enc := enc) (C := Try.checked) false ⟨#[], #[.slice none 0 0], []⟩ 8 (by kernel_rfl) (by kernel_rfl) (by kernel_rfl) (by kernel_rfl)) ?_
  intro W base args ds gs before hval0 hW _ hsz _
  have hval : ∀ (j : Nat) t v, Try.f3.params[j]? = some t → args[j]? = some v → Value.okWide Try.prog W .any base t v := hval0
  have hW' := hW
  obtain ⟨p, q, hA0, hV, rfl, hfz, hnd⟩ := hW
  have hA : DataW.TrodAll enc Try.prog W 0 (fun _ => true) true Try.f3.params.toList args.toList ds p := hA0
  have hz : ∀ m ∈ DataW.weightsEach Try.prog (Try.f3.params.toList ++ Rows.fnKeyCacheAddKeepsTwoGenerationsSpec.plain.varTypes Try.prog) (ds ++ gs), m ≤ reachBytes := fun m hm => by
    have := List.all_eq_true.1 hsz m hm
    simpa using this
  rw [Try.params3] at hA hval hz
  obtain ⟨v0, d0, rfl, rfl, h0⟩ := trodAll_one hA
  obtain ⟨rfl, rfl⟩ := trodVars_none hV
  obtain ⟨a0, len0, cap0, rfl⟩ := okWide_slice Try.underlying22 (hval 0 22 v0 rfl rfl)
  have lt0 : ∀ x ∈ p, x.block < W.heap.size := by obtain ⟨m, hm⟩ := h0; exact DataW.trod_lt m _ _ _ hm
  obtain ⟨hn1, L1, s1, ok1⟩ := open_ops rfl h0 (each_mem (j := 0) (t := 22) rfl rfl hz)
  clear hA0 hval0 hz hsz
  refine (law2 a0 len0 cap0 L1 W hn1 s1 ok1).mono fun e W' ⟨he, bel⟩ => ?_
  subst he
  exact ⟨_, rfl, _, _, _, [], _, [], hW', trodAll_mk1 (shut_bool Try.underlying4 _), trodAll_mk1 (Below.trod laidOut (by kernel_rfl) (of_decide_eq_true (by kernel_rfl)) h0 bel lt0), rfl, bel.frame _, fun h => by cases h⟩

theorem generationsProved : Rows.FnKeyCacheAddKeepsTwoGenerationsSaid :=
  OpenClaim.holds_of_wide 3 Try.f3 rfl rfl rfl rfl rfl rfl rfl ⟨rfl, rfl, rfl, rfl, rfl⟩ rfl rfl rfl rfl rfl (by kernel_rfl) Try.func3 (by kernel_rfl)
    (of_decide_eq_true (by kernel_rfl)) (by unfold Func.isWrapper; first | (rw [if_pos (by decide +kernel)]; kernel_rfl) | (rw [if_neg (by decide +kernel)]; exact ⟨rfl, rfl⟩))
    (fun os started H enc _ => lifted2 os started H enc)

end Go.Proofs.Qxb6616163a
