/-
  THE LAW's WALK: FnCallStagesFreshListOfTheFour returns true: what is written into the first list that CallStages handed out does not turn the second.
-/
import Derived.Test.Qxb6616228aDoorCalls
namespace Go.Proofs.Qxb6616228aDoor
open Go.RowKit

theorem there_below {w w' : World} {g o n : Nat} (h : w.there g o n) (hb : Below w.heap.size w w') (hg : g < w.heap.size) : w'.there g o n := fun j hj => by
  obtain ⟨h1, h2⟩ := h j hj
  exact ⟨by rw [hb.cell hg]; exact h1, by rw [hb.frozen hg]; exact h2⟩

structure Hid (p : Prop) : Prop where
  out : p

set_option maxHeartbeats 1000000 in
theorem law_all (b off c : Nat) (w : World) (hg : w.cell? ⟨0, 0, none⟩ = some (.slice (some ⟨b, off, none⟩) 4 c)) (h : Four w b off) :
    Calls Tryd.prog 3 #[] w fun e w' => e = .returned (.bool true) ∧ Below w.heap.size w w' := by
  have HG : Hid (w.cell? ⟨0, 0, none⟩ = some (.slice (some ⟨b, off, none⟩) 4 c)) := ⟨hg⟩
  have HF : Hid (Four w b off) := ⟨h⟩
  clear hg h
  go_enter Tryd.func3, Tryd.ntmps3
  go_wp2_with fail
  refine (callStages b off c w HG.out HF.out).mono ?_
  rintro e w1 ⟨cap, rfl, hb1, hf1, ht1, hs1⟩
  have HB1 : Hid (Below w.heap.size w w1) := ⟨hb1⟩
  have HF1 : Hid (Four w1 w.heap.size 0) := ⟨hf1⟩
  have HT1 : Hid (w1.there w.heap.size 0 4) := ⟨ht1⟩
  clear hb1 hf1 ht1
  go_wp2_with fail
  refine (theFour w.heap.size cap w1 HF1.out).mono ?_
  rintro e w2 ⟨rfl, hb2⟩
  have HB2 : Hid (Below w.heap.size w w2) := ⟨HB1.out.trans (hb2.mono (Nat.le_of_lt hs1))⟩
  have HT2 : Hid (w2.there w.heap.size 0 4) := ⟨there_below HT1.out hb2 hs1⟩
  clear hb2
  go_wp2
  go_loopw [2] (fun i wr => ∃ k : Nat, k ≤ 4 ∧ i = .int .i64 k ∧ Hid (Below w.heap.size w wr) ∧ Hid (wr.there w.heap.size 0 4)) (fun i _ => 4 - (intOf i).toNat)
  case atStart => exact ⟨0, by decide, rfl, HB2, HT2⟩
  case round =>
    obtain ⟨k, hk, rfl, HB, HT⟩ := hrel
    by_cases hlt : k < 4
    · have hk0 : (0 : Int) ≤ (k : Int) := by omega
      have hkn : (k : Int) < 4 := by omega
      obtain ⟨v0, e0⟩ := Option.isSome_iff_exists.1 (HT.out k hlt).1
      have f0 := (HT.out k hlt).2
      simp only [Nat.zero_add] at e0 f0
      go_wp2_with fail
      go_roundw
      case rel =>
        refine ⟨k + 1, by omega, by go_num, ⟨HB.out.setCell (Nat.le_refl _) _⟩, ⟨?_⟩⟩
        have A := World.there_setCells HT.out w.heap.size k [.string ⟨#[]⟩]
        exact A
      case measure => simp [intOf]; omega
    · obtain rfl : k = 4 := by omega
      have HG3 : Hid (wr.cell? ⟨0, 0, none⟩ = some (.slice (some ⟨b, off, none⟩) 4 c)) := ⟨(HB.out.cell (World.block_lt_of_cell? w ⟨0, 0, none⟩ HG.out)).trans HG.out⟩
      have HF3 : Hid (Four wr b off) := ⟨HF.out.below HB.out⟩
      go_wp2_with fail
      refine (callStages b off c wr HG3.out HF3.out).mono ?_
      rintro e w3 ⟨cap3, rfl, hb3, hf3, ht3, hs3⟩
      have HB3 : Hid (Below wr.heap.size wr w3) := ⟨hb3⟩
      have HF3' : Hid (Four w3 wr.heap.size 0) := ⟨hf3⟩
      clear hb3 hf3 ht3
      go_wp2_with fail
      refine (theFour wr.heap.size cap3 w3 HF3'.out).mono ?_
      rintro e w4 ⟨rfl, hb4⟩
      have HB4 : Hid (Below w3.heap.size w3 w4) := ⟨hb4⟩
      clear hb4
      go_wp2
      go_ret
      have z1 := HB.out.size
      have z3 := HB3.out.size
      exact ⟨rfl, (HB.out.trans (HB3.out.mono z1)).trans (HB4.out.mono (Nat.le_trans z1 z3))⟩

end Go.Proofs.Qxb6616228aDoor
