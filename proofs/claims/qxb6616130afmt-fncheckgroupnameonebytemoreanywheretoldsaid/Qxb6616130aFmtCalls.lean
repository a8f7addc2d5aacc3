/-
  THE WALKS of seat b6616130aF: what each Go function on the road computes.
-/
import Derived.Test.Qxb6616130aFmtFacts
import Derived.WalkKit
import Derived.WalkSpells
import Derived.WalkLawsBesides
namespace Go.Proofs.Qxb6616130aFmt
open Go.RowKit Go.Extern.Stop Go.Stop Go.Extern
attribute [local go_sem] call24 guardF fmt0 fmt0r op9_115w strict9 op3_100w strict3 ptr55 elem55 isError55

/-- Is the name accepted: 1 to 256 bytes? -/
def okB (s : ByteArray) : Bool := decide (1 ≤ s.size ∧ s.size ≤ 256)

theorem size_len (s : ByteArray) : s.size = s.data.toList.length := by cases s; simp [ByteArray.size]
theorem isEmpty_iff (s : ByteArray) : s.toList.isEmpty = decide (s.size = 0) := by
  rw [ByteArray.toList_eq, size_len]
  cases s.data.toList <;> rfl

/-- A name that is accepted: nil; the world stands. -/
theorem check_ok (s : ByteArray) (w : World) (h : okB s = true) :
    Calls Tryf.prog 12 #[.string s] w fun e w' => e = .returned .nilIface ∧ Below w.heap.size w w' := by
  simp [okB] at h
  have h0 : s.toList.isEmpty = false := by rw [isEmpty_iff]; exact decide_eq_false (by omega)
  have h1 : (s.size : Int) ≤ 256 := by omega
  clear h
  go_enter Tryf.func12, Tryf.ntmps12
  go_wp2
  go_ret
  exact ⟨rfl, Below.refl _ _⟩

theorem check_empty (F : Interp) (s : ByteArray) (w : World) (hF : F.answers w.tape) (h0 : s.toList.isEmpty = true) :
    Calls Tryf.prog 12 #[.string s] w fun e w' => e = .returned (.iface 55 (.pointer (some ⟨w.heap.size + 1, 0, none⟩))) ∧ Below w.heap.size w w' := by
  have hF' := answers_open hF
  go_enter Tryf.func12, Tryf.ntmps12
  go_wp2
  go_ret
  exact ⟨rfl, (((Below.refl _ _).alloc (Nat.le_refl _) _).alloc (by simp) _).drew⟩

theorem check_long (F : Interp) (s : ByteArray) (w : World) (hF : F.answers w.tape) (h0 : s.toList.isEmpty = false) (h1 : 256 < (s.size : Int)) :
    Calls Tryf.prog 12 #[.string s] w fun e w' => e = .returned (.iface 55 (.pointer (some ⟨w.heap.size + 1, 0, none⟩))) ∧ Below w.heap.size w w' := by
  have hF' := answers_open hF
  go_enter Tryf.func12, Tryf.ntmps12
  go_wp2
  go_ret
  exact ⟨rfl, (((Below.refl _ _).alloc (Nat.le_refl _) _).alloc (by simp) _).drew⟩

/-- A name that is refused: an error; nothing old has turned. -/
theorem check_bad (F : Interp) (s : ByteArray) (w : World) (hF : F.answers w.tape) (h : okB s = false) :
    Calls Tryf.prog 12 #[.string s] w fun e w' => e = .returned (.iface 55 (.pointer (some ⟨w.heap.size + 1, 0, none⟩))) ∧ Below w.heap.size w w' := by
  simp [okB] at h
  by_cases h0 : s.size = 0
  · exact check_empty F s w hF (by rw [isEmpty_iff]; exact decide_eq_true h0)
  · exact check_long F s w hF (by rw [isEmpty_iff]; exact decide_eq_false h0) (by omega)

theorem bytes_cut (s : ByteArray) (k : Int) (w : World) (h : s.size ≤ 1048576) :
    Calls Tryf.prog 11 #[.string s, .int .i64 k] w fun e w' => e = .returned (.bool true) ∧ w' = w := by
  go_enter Tryf.func11, Tryf.ntmps11
  go_wp2
  go_ret
  exact ⟨rfl, rfl⟩

theorem bytes_more (s : ByteArray) (k c : Int) (w : World) (h : s.size ≤ 1048576) :
    Calls Tryf.prog 13 #[.string s, .int .i64 k, .int .u8 c] w fun e w' => e = .returned (.bool true) ∧ w' = w := by
  go_enter Tryf.func13, Tryf.ntmps13
  go_wp2
  go_ret
  exact ⟨rfl, rfl⟩

end Go.Proofs.Qxb6616130aFmt
