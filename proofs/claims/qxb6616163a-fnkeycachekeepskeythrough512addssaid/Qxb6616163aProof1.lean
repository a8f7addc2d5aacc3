/-
  Seat b6616163a: 'Rows.FnKeyCacheKeepsKeyThrough512AddsSaid', proved out of the law's walk ('law1').
-/
import Derived.Test.Qxb6616163aRows
import Derived.Test.Qxb6616163aOpen
namespace Go.Proofs.Qxb6616163a
open Go.ChangeShapes Go.WideShapes Go.ChangeAt Go.RowKit

theorem own1 : ownKnob Try.prog.godebug = none := by kernel_rfl

set_option maxRecDepth 100000 in
theorem lifted1 (os : Os) (started : os.Started) (H : Type) (enc : TypeId × Value → H) :
    ReturnsInHanded {} Try.checked os 4 .any (Rows.fnKeyCacheKeepsKeyThrough512AddsSpec.pre6 enc Try.prog Try.f4 Rows.fnKeyCacheKeepsKeyThrough512AddsRow.domain false) (Rows.fnKeyCacheKeepsKeyThrough512AddsSpec.post enc Try.prog Try.f4 false true false false) := by
  refine returnsInHanded_of_change_sized (C := Try.checked) own1 started (by kernel_rfl) Try.func4
    (ChangeSpec.witness6 (enc := enc) (C := Try.checked) false ⟨#[], #[.slice none 0 0, .agg #[.string ⟨#[]⟩, .string ⟨#[]⟩, .string ⟨#[]⟩, .string ⟨#[]⟩, .string ⟨#[]⟩, .string ⟨#[]⟩, .slice none 0 0], .slice none 0 0], []⟩ 8 (by kernel_rfl) (by kernel_rfl) (by kernel_rfl) (by kernel_rfl)) ?_
  intro W base args ds gs before hval0 hW _ hsz _
  have hval : ∀ (j : Nat) t v, Try.f4.params[j]? = some t → args[j]? = some v → Value.okWide Try.prog W .any base t v := hval0
  have hW' := hW
  obtain ⟨p, q, hA0, hV, rfl, hfz, hnd⟩ := hW
  have hA : DataW.TrodAll enc Try.prog W 0 (fun _ => true) true Try.f4.params.toList args.toList ds p := hA0
  have hz : ∀ m ∈ DataW.weightsEach Try.prog (Try.f4.params.toList ++ Rows.fnKeyCacheKeepsKeyThrough512AddsSpec.plain.varTypes Try.prog) (ds ++ gs), m ≤ reachBytes := fun m hm => by
    have := List.all_eq_true.1 hsz m hm
    simpa using this
  rw [Try.params4] at hA hval hz
  obtain ⟨v0, v1, v2, d0, d1, d2, p0, p1, p2, rfl, rfl, rfl, h0, h1, h2⟩ := trodAll_three hA
  obtain ⟨rfl, rfl⟩ := trodVars_none hV
  obtain ⟨a0, len0, cap0, rfl⟩ := okWide_slice Try.underlying22 (hval 0 22 v0 rfl rfl)
  obtain ⟨a2, len2, cap2, rfl⟩ := okWide_slice Try.underlying22 (hval 2 22 v2 rfl rfl)
  have lt0 : ∀ x ∈ p0, x.block < W.heap.size := by obtain ⟨m, hm⟩ := h0; exact DataW.trod_lt m _ _ _ hm
  have lt1 : ∀ x ∈ p1, x.block < W.heap.size := by obtain ⟨m, hm⟩ := h1; exact DataW.trod_lt m _ _ _ hm
  have lt2 : ∀ x ∈ p2, x.block < W.heap.size := by obtain ⟨m, hm⟩ := h2; exact DataW.trod_lt m _ _ _ hm
  obtain ⟨hn1, L1, s1, ok1⟩ := open_ops rfl h0 (each_mem (j := 0) (t := 22) rfl rfl hz)
  obtain ⟨x, rfl, okx⟩ := open_op_arg (hval 1 29 v1 rfl rfl) h1 (each_mem (j := 1) (t := 29) rfl rfl hz)
  obtain ⟨hn2, L2, s2, ok2⟩ := open_ops rfl h2 (each_mem (j := 2) (t := 22) rfl rfl hz)
  clear hA0 hval0 hz hsz
  refine (law1 a0 a2 len0 len2 cap0 cap2 L1 L2 x W hn1 hn2 s1 s2 ok1 ok2 okx).mono fun e W' ⟨he, bel⟩ => ?_
  subst he
  exact ⟨_, rfl, _, _, _, [], _, [], hW', trodAll_mk1 (shut_bool Try.underlying4 _), (trodAll_mk3 (Below.trod laidOut (by kernel_rfl) (of_decide_eq_true (by kernel_rfl)) h0 bel lt0) (Below.trod laidOut (by kernel_rfl) (of_decide_eq_true (by kernel_rfl)) h1 bel lt1) (Below.trod laidOut (by kernel_rfl) (of_decide_eq_true (by kernel_rfl)) h2 bel lt2)), rfl, bel.frame _, fun h => by cases h⟩

theorem keepsProved : Rows.FnKeyCacheKeepsKeyThrough512AddsSaid :=
  OpenClaim.holds_of_wide 4 Try.f4 rfl rfl rfl rfl rfl rfl rfl ⟨rfl, rfl, rfl, rfl, rfl⟩ rfl rfl rfl rfl rfl (by kernel_rfl) Try.func4 (by kernel_rfl)
    (of_decide_eq_true (by kernel_rfl)) (by unfold Func.isWrapper; first | (rw [if_pos (by decide +kernel)]; kernel_rfl) | (rw [if_neg (by decide +kernel)]; exact ⟨rfl, rfl⟩))
    (fun os started H enc _ => lifted1 os started H enc)

end Go.Proofs.Qxb6616163a
