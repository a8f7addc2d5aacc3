/-
  THE WALKS of seat b6616228aD: CallStages hands out a new row with the four names in it; b1TheFourStages says true of such a row.
-/
import Derived.Test.Qxb6616228aDoorProg
import Derived.WalkKit
import Derived.WalkSpells
import Derived.WalkLawsBesides
import Derived.Deep.MidRow
import Derived.KernelRfl
namespace Go.Proofs.Qxb6616228aDoor
open Go.RowKit

def sIn : ByteArray := ⟨#[105, 110, 98, 111, 117, 110, 100]⟩
def sRe : ByteArray := ⟨#[114, 101, 115, 112, 111, 110, 115, 101]⟩
def sMc : ByteArray := ⟨#[109, 99, 112]⟩
def sEg : ByteArray := ⟨#[101, 103, 114, 101, 115, 115]⟩

/-- The four names stand in the four cells from 'off' on of the block 'b'. -/
def Four (w : World) (b off : Nat) : Prop :=
  w.cell? ⟨b, off, none⟩ = some (.string ⟨#[105, 110, 98, 111, 117, 110, 100]⟩) ∧ w.cell? ⟨b, off + 1, none⟩ = some (.string ⟨#[114, 101, 115, 112, 111, 110, 115, 101]⟩) ∧
  w.cell? ⟨b, off + 2, none⟩ = some (.string ⟨#[109, 99, 112]⟩) ∧ w.cell? ⟨b, off + 3, none⟩ = some (.string ⟨#[101, 103, 114, 101, 115, 115]⟩)

theorem Four.below {w w' : World} {b off : Nat} (h : Four w b off) (hb : Below w.heap.size w w') : Four w' b off :=
  have hlt : b < w.heap.size := World.block_lt_of_cell? w ⟨b, off, none⟩ h.1
  ⟨(hb.cell hlt).trans h.1, (hb.cell hlt).trans h.2.1, (hb.cell hlt).trans h.2.2.1, (hb.cell hlt).trans h.2.2.2⟩

theorem bytes25 : ¬ 281474976710656 < Builtin.nextslicecap 4 0 * Tryd.t25.bytes := of_decide_eq_false (by kernel_rfl)

theorem callStages (b off c : Nat) (w : World) (hg : w.cell? ⟨0, 0, none⟩ = some (.slice (some ⟨b, off, none⟩) 4 c)) (h : Four w b off) :
    Calls Tryd.prog 4 #[] w fun e w' => ∃ cap, e = .returned (.slice (some ⟨w.heap.size, 0, none⟩) 4 cap) ∧ Below w.heap.size w w' ∧ Four w' w.heap.size 0 ∧ w'.there w.heap.size 0 4 ∧ w.heap.size < w'.heap.size := by
  obtain ⟨h0, h1, h2, h3⟩ := h
  have hb25 := bytes25
  go_enter Tryd.func4, Tryd.ntmps4
  go_wp2
  go_ret
  generalize Builtin.zeroCells _ _ = Z
  refine ⟨_, rfl, (Below.refl _ _).drew.alloc (Nat.le_refl _) _, ?_⟩
  generalize hM : (#[.string ⟨#[105, 110, 98, 111, 117, 110, 100]⟩, .string ⟨#[114, 101, 115, 112, 111, 110, 115, 101]⟩, .string ⟨#[109, 99, 112]⟩, .string ⟨#[101, 103, 114, 101, 115, 115]⟩] ++ Z : Array Value) = M
  have hnew : (w.alloc (.cells M 25)).drew.heap[w.heap.size]? = some (.cells M 25 (0, 0)) := heap_alloc_new w _
  have m0 : M[0]? = some (.string ⟨#[105, 110, 98, 111, 117, 110, 100]⟩) := by rw [← hM, Array.getElem?_append_left (by simp)]; rfl
  have m1 : M[1]? = some (.string ⟨#[114, 101, 115, 112, 111, 110, 115, 101]⟩) := by rw [← hM, Array.getElem?_append_left (by simp)]; rfl
  have m2 : M[2]? = some (.string ⟨#[109, 99, 112]⟩) := by rw [← hM, Array.getElem?_append_left (by simp)]; rfl
  have m3 : M[3]? = some (.string ⟨#[101, 103, 114, 101, 115, 115]⟩) := by rw [← hM, Array.getElem?_append_left (by simp)]; rfl
  refine ⟨⟨?_, ?_, ?_, ?_⟩, ?_, by simp⟩
  · rw [cell_of_row _ _ 0 M 25 (0, 0) hnew, m0]
  · rw [cell_of_row _ _ (0 + 1) M 25 (0, 0) hnew, m1]
  · rw [cell_of_row _ _ (0 + 2) M 25 (0, 0) hnew, m2]
  · rw [cell_of_row _ _ (0 + 3) M 25 (0, 0) hnew, m3]
  · intro j hj
    constructor
    · rw [cell_of_row _ _ (0 + j) M 25 (0, 0) hnew]
      match j, hj with
      | 0, _ => rw [m0]; rfl
      | 1, _ => rw [m1]; rfl
      | 2, _ => rw [m2]; rfl
      | 3, _ => rw [m3]; rfl
    · unfold World.frozen?
      rw [show (w.alloc (.cells M 25)).drew.heap[(⟨w.heap.size, 0 + j, none⟩ : Addr).block]? = some (.cells M 25 (0, 0)) from hnew]
      simp

theorem theFour (b c : Nat) (w : World) (h : Four w b 0) :
    Calls Tryd.prog 5 #[.slice (some ⟨b, 0, none⟩) 4 c] w fun e w' => e = .returned (.bool true) ∧ Below w.heap.size w w' := by
  obtain ⟨h0, h1, h2, h3⟩ := h
  go_enter Tryd.func5, Tryd.ntmps5
  go_wp2
  go_ret
  exact ⟨rfl, Below.refl _ _⟩

end Go.Proofs.Qxb6616228aDoor
