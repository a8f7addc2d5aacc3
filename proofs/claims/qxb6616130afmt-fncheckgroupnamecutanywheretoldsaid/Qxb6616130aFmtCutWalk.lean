/-
  THE LAW's WALK: FnCheckGroupNameCutAnywhere returns true at every input.
-/
import Derived.Test.Qxb6616130aFmtCalls
namespace Go.Proofs.Qxb6616130aFmt
open Go.RowKit Go.Extern.Stop Go.Stop Go.Extern

theorem cut_long (s : ByteArray) (k : Int) (w : World) (hs : s.size ≤ maxLen) (h : 65536 < s.size) :
    Calls Tryf.prog 4 #[.string s, .int .i64 k] w fun e w' => e = .returned (.bool true) ∧ Below w.heap.size w w' := by
  unfold maxLen at hs
  by_cases h2 : 1048576 < s.size
  · go_enter Tryf.func4, Tryf.ntmps4
    go_wp2
    go_ret
    exact ⟨rfl, Below.refl _ _⟩
  · go_enter Tryf.func4, Tryf.ntmps4
    go_wp2
    go_ret
    exact ⟨rfl, Below.refl _ _⟩

theorem cut_out (s : ByteArray) (k : Int) (w : World) (h : s.size ≤ 65536) (hk : k < 0 ∨ (s.size : Int) < k) :
    Calls Tryf.prog 4 #[.string s, .int .i64 k] w fun e w' => e = .returned (.bool true) ∧ Below w.heap.size w w' := by
  by_cases hk0 : k < 0
  · go_enter Tryf.func4, Tryf.ntmps4
    go_wp2
    go_ret
    exact ⟨rfl, Below.refl _ _⟩
  · have hk1 : (s.size : Int) < k := by omega
    go_enter Tryf.func4, Tryf.ntmps4
    go_wp2
    go_ret
    exact ⟨rfl, Below.refl _ _⟩

theorem ext_size0 (s : ByteArray) (k : Nat) (hk : k ≤ s.size) : (s.extract 0 k).size = k := by
  rw [ByteArray.size_extract]; omega
theorem ext_size1 (s : ByteArray) (k : Nat) : (s.extract k s.size).size = s.size - k := by
  rw [ByteArray.size_extract]; omega

set_option maxHeartbeats 1000000 in
/-- One way through: what each of the three answers is, is told ahead. -/
theorem cut_way (F : Interp) (s : ByteArray) (k : Nat) (w : World) (hF : F.answers w.tape) (h : s.size ≤ 65536) (hk : k ≤ s.size) (bn ba bb ea eb : Bool)
    (hn : okB s = bn) (ha : okB (s.extract 0 k) = ba) (hb : okB (s.extract k s.size) = bb)
    (hea : (s.extract 0 k).toList.isEmpty = ea) (heb : (s.extract k s.size).toList.isEmpty = eb) :
    Calls Tryf.prog 4 #[.string s, .int .i64 k] w fun e w' => e = .returned (.bool true) ∧ Below w.heap.size w w' := by
  have xn : bn = decide (1 ≤ s.size ∧ s.size ≤ 256) := hn.symm
  have xa : ba = decide (1 ≤ k ∧ k ≤ 256) := by rw [← ha, okB, ext_size0 s k hk]
  have xb : bb = decide (1 ≤ s.size - k ∧ s.size - k ≤ 256) := by rw [← hb, okB, ext_size1]
  have xea : ea = decide (k = 0) := by rw [← hea, isEmpty_iff, ext_size0 s k hk]
  have xeb : eb = decide (s.size - k = 0) := by rw [← heb, isEmpty_iff, ext_size1]
  cases bn <;> cases ba <;> cases bb <;> cases ea <;> cases eb <;>
    simp only [Bool.false_eq, Bool.true_eq, decide_eq_true_eq, decide_eq_false_iff_not] at xn xa xb xea xeb <;>
    first
    | (exfalso; omega)
    | (clear xea xeb
       try (have y1 : (1 : Int) ≤ s.size := by omega
            have y2 : (s.size : Int) ≤ 256 := by omega)
       go_enter Tryf.func4, Tryf.ntmps4
       go_wp2_with fail
       refine (bytes_cut _ _ _ (by omega)).mono ?_
       rintro e w0 ⟨rfl, hw0⟩
       subst hw0
       go_wp2_with fail
       first | refine (check_ok _ _ hn).mono ?_ | refine (check_bad F _ _ hF hn).mono ?_
       rintro e w1 ⟨rfl, hb1⟩
       have hF1 : F.answers w1.tape := by rw [hb1.tape]; exact hF
       go_wp2_with fail
       first | refine (check_ok _ _ ha).mono ?_ | refine (check_bad F _ _ hF1 ha).mono ?_
       rintro e w2 ⟨rfl, hb2⟩
       have hF2 : F.answers w2.tape := by rw [hb2.tape]; exact hF1
       go_wp2_with fail
       first | refine (check_ok _ _ hb).mono ?_ | refine (check_bad F _ _ hF2 hb).mono ?_
       rintro e w3 ⟨rfl, hb3⟩
       have hz1 := hb1.size
       have hz2 := hb2.size
       go_wp2
       all_goals go_ret
       all_goals exact ⟨rfl, (hb1.trans (hb2.mono hz1)).trans (hb3.mono (Nat.le_trans hz1 hz2))⟩)

/-- FnCheckGroupNameCutAnywhere returns true, whatever the name and the place. -/
theorem cut_law (F : Interp) (s : ByteArray) (k : Int) (w : World) (hF : F.answers w.tape) (hs : s.size ≤ maxLen) :
    Calls Tryf.prog 4 #[.string s, .int .i64 k] w fun e w' => e = .returned (.bool true) ∧ Below w.heap.size w w' := by
  by_cases h : 65536 < s.size
  · exact cut_long s k w hs h
  · by_cases hk : k < 0 ∨ (s.size : Int) < k
    · exact cut_out s k w (by omega) hk
    · obtain ⟨m, rfl⟩ := Int.eq_ofNat_of_zero_le (show 0 ≤ k by omega)
      exact cut_way F s m w hF (by omega) (by omega) _ _ _ _ _ rfl rfl rfl rfl rfl

end Go.Proofs.Qxb6616130aFmt
