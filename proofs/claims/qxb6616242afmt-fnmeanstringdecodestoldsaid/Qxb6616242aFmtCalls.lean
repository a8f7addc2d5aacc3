/-
  THE WALKS of seat b6616242aF that both laws share: the label of a mean is what fmt.Sprintf is told to say; the told text, byte for byte.
-/
import Derived.Test.Qxb6616242aFmtFacts
import Derived.WalkKit
import Derived.WalkSpells
import Derived.WalkLawsBesides
import Derived.Stop.Texts
import Derived.Stop.Told
import Derived.Stop.FmtQuoteTie
import Derived.Stop.FmtTextKit
namespace Go.Proofs.Qxb6616242aFmt
open Go.RowKit Go.Kit Go.Extern.Stop Go.Stop Go.Extern
attribute [local go_sem] call12 guardF fmt0 fmt0r op9_115 strict9 op3_100 strict3

/-- What fmt is asked. -/
def reading (m : List UInt8) (y : Int) : List (List UInt8) :=
  [[109, 101, 97, 110, 32, 37, 115, 32, 111, 118, 101, 114, 32, 37, 100, 32, 121, 101, 97, 114, 115], shape9, FmtStop.pack m, shape3, digits 8 (y % 18446744073709551616).toNat]

/-- "mean ", the metric, " over ", the number, " years". -/
def label (m : List UInt8) (y : Int) : List UInt8 := [109, 101, 97, 110, 32] ++ (m ++ ([32, 111, 118, 101, 114, 32] ++ (Lib.itoa y ++ [32, 121, 101, 97, 114, 115])))

theorem parsed : (FmtText.parse [109, 101, 97, 110, 32, 37, 115, 32, 111, 118, 101, 114, 32, 37, 100, 32, 121, 101, 97, 114, 115]).map FmtText.glue = some [.lit [109, 101, 97, 110, 32], .verb {} 115, .lit [32, 111, 118, 101, 114, 32], .verb {} 100, .lit [32, 121, 101, 97, 114, 115]] := by rfl

theorem text_eq (m : List UInt8) (y : Int) (hs : m.length < 2 ^ 64) (hw : (Lit.int .i64 y).wf = true) : FmtText.text "fmt.Sprintf" (reading m y) = some (label m y) := by
  have hi := FmtText.operand_int_at (sh := shape3) (k := .i64) rfl rfl y hw
  have hn := FmtText.operand_str_at (sh := shape9) rfl rfl m hs
  rw [reading, FmtText.text_sprintf_glued parsed (FmtText.operands_cons hn (FmtText.operands_cons hi FmtText.operands_nil))]
  simp [FmtText.render, FmtText.printArg_d _ _ hw, FmtText.printArg_s_str, label]

theorem label_length (m : List UInt8) (y : Int) : (label m y).length = m.length + (Lib.itoa y).length + 17 := by
  simp [label]; omega

/-- The told text. -/
theorem told_label (F : Interp) (m : ByteArray) (y : Int) (hs : m.size ≤ 1048576) (hw : (Lit.int .i64 y).wf = true) :
    FmtStop.textOf (F.told "fmt.Sprintf" (reading m.data.toList y) 0) = ⟨(label m.data.toList y).toArray⟩ := by
  have hl : m.data.toList.length = m.size := by cases m; simp [ByteArray.size]
  have li := FmtText.itoa_length_le hw
  have ht := told_string F (text_eq m.data.toList y (by omega) hw) (by rw [label_length]; omega)
  rw [← textOf_list] at ht
  generalize FmtStop.textOf (F.told "fmt.Sprintf" (reading m.data.toList y) 0) = b at ht
  cases b with
  | mk d => cases d; cases ht; rfl

/-- (mean).String. -/
theorem string_all (F : Interp) (m : ByteArray) (y : Int) (w : World) (hF : F.answers w.tape) :
    Calls Tryf.prog 10 #[.agg #[.string m, .int .i64 y]] w fun e w' => e = .returned (.string (FmtStop.textOf (F "fmt.Sprintf" (reading m.data.toList y) 0))) ∧ Below w.heap.size w w' := by
  have hF' := answers_open hF
  go_enter Tryf.func10, Tryf.ntmps10
  go_wp2
  go_ret
  exact ⟨rfl, (((Below.refl _ _).alloc (Nat.le_refl _) _).alloc (by simp) _).drew⟩

/-- ZZMeanString, fmt's text told. -/
theorem mean_all (F : Interp) (m : ByteArray) (y : Int) (w : World) (hF : F.told.answers w.tape) (hs : m.size ≤ 1048576) (hw : (Lit.int .i64 y).wf = true) :
    Calls Tryf.prog 6 #[.string m, .int .i64 y] w fun e w' => e = .returned (.string ⟨(label m.data.toList y).toArray⟩) ∧ Below w.heap.size w w' := by
  have HT := told_label F m y hs hw
  go_enter Tryf.func6, Tryf.ntmps6
  go_wp2_with fail
  refine (string_all F.told m y w hF).mono ?_
  rintro e w1 ⟨rfl, hb1⟩
  rw [HT]
  go_wp2
  go_ret
  exact ⟨rfl, hb1⟩

theorem bytes_dec (m : ByteArray) (y : Int) (w : World) (h : m.size ≤ 1048576) :
    Calls Tryf.prog 5 #[.string m, .int .i64 y] w fun e w' => e = .returned (.bool true) ∧ w' = w := by
  go_enter Tryf.func5, Tryf.ntmps5
  go_wp2
  go_ret
  exact ⟨rfl, rfl⟩

theorem bytes_inj (m1 : ByteArray) (y1 : Int) (m2 : ByteArray) (y2 : Int) (w : World) (h1 : m1.size ≤ maxLen) (h2 : m2.size ≤ maxLen) :
    Calls Tryf.prog 8 #[.string m1, .int .i64 y1, .string m2, .int .i64 y2] w fun e w' => e = .returned (.bool (decide (m1.size + m2.size ≤ 1048576))) ∧ w' = w := by
  unfold maxLen at h1 h2
  by_cases a : m1.size ≤ 1048576
  · by_cases b : m2.size ≤ 1048576
    · by_cases c : m1.size + m2.size ≤ 1048576
      · have c' : (m1.size : Int) + m2.size ≤ 1048576 := by omega
        rw [decide_eq_true c]
        go_enter Tryf.func8, Tryf.ntmps8
        go_wp2
        go_ret
        exact ⟨rfl, rfl⟩
      · have c' : 1048576 < (m1.size : Int) + m2.size := by omega
        rw [decide_eq_false c]
        go_enter Tryf.func8, Tryf.ntmps8
        go_wp2
        go_ret
        exact ⟨rfl, rfl⟩
    · rw [decide_eq_false (by omega)]
      go_enter Tryf.func8, Tryf.ntmps8
      go_wp2
      go_ret
      exact ⟨rfl, rfl⟩
  · rw [decide_eq_false (by omega)]
    go_enter Tryf.func8, Tryf.ntmps8
    go_wp2
    go_ret
    exact ⟨rfl, rfl⟩

end Go.Proofs.Qxb6616242aFmt
