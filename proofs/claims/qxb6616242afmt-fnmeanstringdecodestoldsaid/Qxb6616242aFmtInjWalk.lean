/-
  THE LAW's WALK: FnMeanStringInjective returns true at every input.
-/
import Derived.Test.Qxb6616242aFmtPlain
namespace Go.Proofs.Qxb6616242aFmt
open Go.RowKit Go.Kit Go.Extern.Stop Go.Stop Go.Extern

structure Hid (p : Prop) : Prop where
  out : p

/-- A label opens with "mean ", its metric and a blank. -/
theorem label_opens (m : ByteArray) (y : Int) : 5 + m.size + 1 ≤ (⟨(label m.data.toList y).toArray⟩ : ByteArray).size ∧
    ((⟨(label m.data.toList y).toArray⟩ : ByteArray).extract 0 (5 + m.size + 1)).toList = ((⟨#[109, 101, 97, 110, 32]⟩ ++ m : ByteArray) ++ ⟨#[32]⟩).toList := by
  have hs : m.size = m.data.toList.length := by cases m; simp [ByteArray.size]
  constructor
  · show _ ≤ (label m.data.toList y).toArray.size
    rw [List.size_toArray, label_length]; omega
  · have e : label m.data.toList y = ([109, 101, 97, 110, 32] ++ m.data.toList ++ [32]) ++ ([111, 118, 101, 114, 32] ++ (Lib.itoa y ++ [32, 121, 101, 97, 114, 115])) := by simp [label]
    have hl : ([109, 101, 97, 110, 32] ++ m.data.toList ++ [32]).length = 5 + m.size + 1 := by rw [hs]; simp; omega
    rw [ByteArray.toList_eq, ByteArray.toList_eq, e, ← hl]
    simp [-List.append_assoc]

theorem label_ne {m1 m2 : ByteArray} {y1 y2 : Int} (h : ¬ (m1.toList = m2.toList ∧ y1 = y2)) : ¬ (⟨(label m1.data.toList y1).toArray⟩ : ByteArray).toList = (⟨(label m2.data.toList y2).toArray⟩ : ByteArray).toList := fun e => by
  rw [ByteArray.toList_eq, ByteArray.toList_eq] at e
  obtain ⟨a, b⟩ := label_inj e
  exact h ⟨by rw [ByteArray.toList_eq, ByteArray.toList_eq, a], b⟩

set_option maxHeartbeats 1000000 in
theorem inj_same (F : Interp) (m1 : ByteArray) (y1 : Int) (w : World) (hF : F.told.answers w.tape) (h1 : m1.size ≤ 524288) (hw1 : (Lit.int .i64 y1).wf = true) :
    Calls Tryf.prog 4 #[.string m1, .int .i64 y1, .string m1, .int .i64 y1] w fun e w' => e = .returned (.bool true) ∧ Below w.heap.size w w' := by
  obtain ⟨P1, X1⟩ := label_opens m1 y1
  have q : m1.size + m1.size ≤ 1048576 := by omega
  obtain ⟨s1, e1⟩ : ∃ s1 : ByteArray, s1 = ⟨(label m1.data.toList y1).toArray⟩ := ⟨_, rfl⟩
  rw [← e1] at P1 X1
  have E1 : Hid (s1 = ⟨(label m1.data.toList y1).toArray⟩) := ⟨e1⟩
  clear e1
  have P1' : (5 : Int) + m1.size + 1 ≤ s1.size := by omega
  go_enter Tryf.func4, Tryf.ntmps4
  go_wp2_with fail
  refine (bytes_inj m1 y1 m1 y1 w (by unfold maxLen; omega) (by unfold maxLen; omega)).mono ?_
  rintro e w0 ⟨rfl, hw0⟩
  subst hw0
  rw [decide_eq_true q]
  go_wp2_with fail
  refine (mean_all F m1 y1 w0 hF (by omega) hw1).mono ?_
  rintro e w1 ⟨rfl, hb1⟩
  rw [← E1.out]
  go_wp2_with fail
  refine (mean_all F m1 y1 w1 (by rw [hb1.tape]; exact hF) (by omega) hw1).mono ?_
  rintro e w2 ⟨rfl, hb2⟩
  rw [← E1.out]
  have HB : Hid (Below w0.heap.size w0 w2) := ⟨hb1.trans (hb2.mono hb1.size)⟩
  clear hb1 hb2
  go_wp2
  all_goals go_ret
  all_goals exact ⟨rfl, HB.out⟩

set_option maxHeartbeats 1000000 in
theorem inj_other (F : Interp) (m1 : ByteArray) (y1 : Int) (m2 : ByteArray) (y2 : Int) (w : World) (hF : F.told.answers w.tape) (h1 : m1.size ≤ 524288) (h2 : m2.size ≤ 524288)
    (hw1 : (Lit.int .i64 y1).wf = true) (hw2 : (Lit.int .i64 y2).wf = true) (hne : ¬ (m1.toList = m2.toList ∧ y1 = y2)) :
    Calls Tryf.prog 4 #[.string m1, .int .i64 y1, .string m2, .int .i64 y2] w fun e w' => e = .returned (.bool true) ∧ Below w.heap.size w w' := by
  obtain ⟨P1, X1⟩ := label_opens m1 y1
  obtain ⟨P2, X2⟩ := label_opens m2 y2
  have q : m1.size + m2.size ≤ 1048576 := by omega
  have D := label_ne hne
  obtain ⟨s1, e1⟩ : ∃ s1 : ByteArray, s1 = ⟨(label m1.data.toList y1).toArray⟩ := ⟨_, rfl⟩
  obtain ⟨s2, e2⟩ : ∃ s2 : ByteArray, s2 = ⟨(label m2.data.toList y2).toArray⟩ := ⟨_, rfl⟩
  rw [← e1] at P1 X1
  rw [← e2] at P2 X2
  rw [← e1, ← e2] at D
  have E1 : Hid (s1 = ⟨(label m1.data.toList y1).toArray⟩) := ⟨e1⟩
  have E2 : Hid (s2 = ⟨(label m2.data.toList y2).toArray⟩) := ⟨e2⟩
  clear e1 e2
  have P1' : (5 : Int) + m1.size + 1 ≤ s1.size := by omega
  have P2' : (5 : Int) + m2.size + 1 ≤ s2.size := by omega
  have D' : (s1.toList == s2.toList) = false := by simpa using D
  by_cases hm : m1.toList = m2.toList
  · have hy : ¬ y1 = y2 := fun e => hne ⟨hm, e⟩
    have hy' : (y1 == y2) = false := by simpa using hy
    clear hne
    go_enter Tryf.func4, Tryf.ntmps4
    go_wp2_with fail
    refine (bytes_inj m1 y1 m2 y2 w (by unfold maxLen; omega) (by unfold maxLen; omega)).mono ?_
    rintro e w0 ⟨rfl, hw0⟩
    subst hw0
    rw [decide_eq_true q]
    go_wp2_with fail
    refine (mean_all F m1 y1 w0 hF (by omega) hw1).mono ?_
    rintro e w1 ⟨rfl, hb1⟩
    rw [← E1.out]
    go_wp2_with fail
    refine (mean_all F m2 y2 w1 (by rw [hb1.tape]; exact hF) (by omega) hw2).mono ?_
    rintro e w2 ⟨rfl, hb2⟩
    rw [← E2.out]
    have HB : Hid (Below w0.heap.size w0 w2) := ⟨hb1.trans (hb2.mono hb1.size)⟩
    clear hb1 hb2
    go_wp2
    all_goals go_ret
    all_goals exact ⟨rfl, HB.out⟩
  · clear hne
    go_enter Tryf.func4, Tryf.ntmps4
    go_wp2_with fail
    refine (bytes_inj m1 y1 m2 y2 w (by unfold maxLen; omega) (by unfold maxLen; omega)).mono ?_
    rintro e w0 ⟨rfl, hw0⟩
    subst hw0
    rw [decide_eq_true q]
    go_wp2_with fail
    refine (mean_all F m1 y1 w0 hF (by omega) hw1).mono ?_
    rintro e w1 ⟨rfl, hb1⟩
    rw [← E1.out]
    go_wp2_with fail
    refine (mean_all F m2 y2 w1 (by rw [hb1.tape]; exact hF) (by omega) hw2).mono ?_
    rintro e w2 ⟨rfl, hb2⟩
    rw [← E2.out]
    have HB : Hid (Below w0.heap.size w0 w2) := ⟨hb1.trans (hb2.mono hb1.size)⟩
    clear hb1 hb2
    go_wp2
    all_goals go_ret
    all_goals exact ⟨rfl, HB.out⟩

theorem inj_bytes (m1 : ByteArray) (y1 : Int) (m2 : ByteArray) (y2 : Int) (w : World) (h1 : m1.size ≤ maxLen) (h2 : m2.size ≤ maxLen) (h : ¬ m1.size + m2.size ≤ 1048576) :
    Calls Tryf.prog 4 #[.string m1, .int .i64 y1, .string m2, .int .i64 y2] w fun e w' => e = .returned (.bool true) ∧ Below w.heap.size w w' := by
  go_enter Tryf.func4, Tryf.ntmps4
  go_wp2_with fail
  refine (bytes_inj m1 y1 m2 y2 w h1 h2).mono ?_
  rintro e w0 ⟨rfl, hw0⟩
  subst hw0
  rw [decide_eq_false h]
  go_wp2
  go_ret
  exact ⟨rfl, Below.refl _ _⟩

theorem inj_long (m1 : ByteArray) (y1 : Int) (m2 : ByteArray) (y2 : Int) (w : World) (h : m1.size + m2.size ≤ 1048576) (hl : 524288 < m1.size ∨ 524288 < m2.size) :
    Calls Tryf.prog 4 #[.string m1, .int .i64 y1, .string m2, .int .i64 y2] w fun e w' => e = .returned (.bool true) ∧ Below w.heap.size w w' := by
  by_cases ha : 524288 < m1.size
  · clear hl
    go_enter Tryf.func4, Tryf.ntmps4
    go_wp2_with fail
    refine (bytes_inj m1 y1 m2 y2 w (by unfold maxLen; omega) (by unfold maxLen; omega)).mono ?_
    rintro e w0 ⟨rfl, hw0⟩
    subst hw0
    rw [decide_eq_true h]
    go_wp2
    go_ret
    exact ⟨rfl, Below.refl _ _⟩
  · have hb := hl.resolve_left ha
    clear hl
    have ha' : m1.size ≤ 524288 := by omega
    go_enter Tryf.func4, Tryf.ntmps4
    go_wp2_with fail
    refine (bytes_inj m1 y1 m2 y2 w (by unfold maxLen; omega) (by unfold maxLen; omega)).mono ?_
    rintro e w0 ⟨rfl, hw0⟩
    subst hw0
    rw [decide_eq_true h]
    go_wp2
    go_ret
    exact ⟨rfl, Below.refl _ _⟩

/-- FnMeanStringInjective returns true, whatever the four. -/
theorem inj_law (F : Interp) (m1 : ByteArray) (y1 : Int) (m2 : ByteArray) (y2 : Int) (w : World) (hF : F.told.answers w.tape) (h1 : m1.size ≤ maxLen) (h2 : m2.size ≤ maxLen)
    (hw1 : (Lit.int .i64 y1).wf = true) (hw2 : (Lit.int .i64 y2).wf = true) :
    Calls Tryf.prog 4 #[.string m1, .int .i64 y1, .string m2, .int .i64 y2] w fun e w' => e = .returned (.bool true) ∧ Below w.heap.size w w' := by
  by_cases h : m1.size + m2.size ≤ 1048576
  · by_cases hl : 524288 < m1.size ∨ 524288 < m2.size
    · exact inj_long m1 y1 m2 y2 w h hl
    · by_cases hs : m1.toList = m2.toList ∧ y1 = y2
      · obtain ⟨hm, rfl⟩ := hs
        rw [ByteArray.toList_eq, ByteArray.toList_eq] at hm
        obtain rfl : m1 = m2 := ByteArray.ext (Array.toList_inj.1 hm)
        exact inj_same F m1 y1 w hF (by omega) hw1
      · exact inj_other F m1 y1 m2 y2 w hF (by omega) (by omega) hw1 hw2 hs
  · exact inj_bytes m1 y1 m2 y2 w h1 h2 h

end Go.Proofs.Qxb6616242aFmt
