/-
  Seat b6616163a: the map's key: a struct of six strings.
-/
import Derived.Test.Qxb6616163aChecked
import Derived.Test.Qxb6616163aBase
import Derived.Maps.OwnSet
import Derived.Maps.Views
import Derived.DeepKeys4
import Derived.KernelRfl
namespace Go.Proofs.Qxb6616163a
open Go.RowKit Go.Maps

theorem laidOut : laidOutB Try.prog = true := by kernel_rfl
theorem row58 : 58 < Try.prog.types.size := of_decide_eq_true (by kernel_rfl)
theorem keyTy58 : Try.prog.keyTypeAt 3 58 = true := by kernel_rfl
theorem wide58 : (match Try.prog.underlying 58 with | some (.array _ _) | some (.struct _) => true | _ => false) = true := by kernel_rfl
theorem law : Keyed Try.prog 58 := Keyed.of_law (deep_law_laid laidOut (m := 3) (by omega) row58 keyTy58 wide58)

def idVal (o : KOp) : Value := .agg #[.string o.a, .string o.b, .string o.c, .string o.d, .string o.e, .string o.f]
/-- The key's literal, as the reader has it. -/
def kl (o : KOp) : Lit := .string (keyBytes [.string o.a.data.toList, .string o.b.data.toList, .string o.c.data.toList, .string o.d.data.toList, .string o.e.data.toList, .string o.f.data.toList])

/-- The six strings are strings that Go can hold. -/
def IdOk (o : KOp) : Prop := o.a.size ≤ maxLen ∧ o.b.size ≤ maxLen ∧ o.c.size ≤ maxLen ∧ o.d.size ≤ maxLen ∧ o.e.size ≤ maxLen ∧ o.f.size ≤ maxLen

theorem key_ty : Try.prog.keyType 58 = true := by kernel_rfl
theorem types_two : ∃ m, Try.prog.types.size + 1 = m + 2 := ⟨Try.prog.types.size - 1, by have := row58; omega⟩
theorem cells58 : Try.prog.cellsOf 58 = 6 := by kernel_rfl
theorem cells9 : Try.prog.cellsOf 9 = 1 := by kernel_rfl

theorem keyOf_op (o : KOp) (h : IdOk o) : keyOf Try.prog 58 (idVal o) = some (kl o) := by
  obtain ⟨h0, h1, h2, h3, h4, h5⟩ := h
  obtain ⟨m, hm⟩ := types_two
  simp only [keyOf, Try.underlying58, key_ty, idVal, Value.formed, cells58, hm]
  simp [Program.keyLits, Try.underlying58, Try.underlying9, cells58, cells9, Value.cells, h0, h1, h2, h3, h4, h5, kl]

end Go.Proofs.Qxb6616163a
