/-
  THE LAW's WALK: FnMeanStringDecodes returns true at every input.
-/
import Derived.Test.Qxb6616242aFmtParse
namespace Go.Proofs.Qxb6616242aFmt
open Go.RowKit Go.Kit Go.Extern.Stop Go.Stop Go.Extern

set_option maxHeartbeats 1000000 in
theorem decode (s mid m d : ByteArray) (y : Int) (M : Nat) (w : World) (hS : s.size = mid.size + 11) (hm : mid.size ≤ 2000000) (h1 : (s.extract 0 5).toList = [109, 101, 97, 110, 32]) (h2 : (s.extract (s.size - 6) s.size).toList = [32, 121, 101, 97, 114, 115])
    (h3 : s.extract 5 (s.size - 6) = mid) (hM : M + 6 ≤ mid.size) (hno : ∀ i, M < i → i + 6 ≤ mid.size → ¬ (mid.extract i (i + 6)).toList = [32, 111, 118, 101, 114, 32])
    (hyes : (mid.extract M (M + 6)).toList = [32, 111, 118, 101, 114, 32]) (hd : mid.extract (M + 6) mid.size = d) (hm0 : mid.extract 0 M = m)
    (hp : ∀ w, Calls Tryf.prog 11 #[.string d] w fun e w' => e = .returned (.tuple #[.int .i64 y, .bool true]) ∧ w' = w) :
    Calls Tryf.prog 7 #[.string s] w fun e w' => e = .returned (.tuple #[.string m, .int .i64 y, .bool true]) ∧ w' = w := by
  have HS : Hid (s.size = mid.size + 11) := ⟨hS⟩
  have HNO : Hid (∀ i, M < i → i + 6 ≤ mid.size → ¬ (mid.extract i (i + 6)).toList = [32, 111, 118, 101, 114, 32]) := ⟨hno⟩
  have HP : Hid (∀ w, Calls Tryf.prog 11 #[.string d] w fun e w' => e = .returned (.tuple #[.int .i64 y, .bool true]) ∧ w' = w) := ⟨hp⟩
  have q1 : (11 : Int) ≤ s.size := by omega
  have q2 : (s.size : Int) ≤ 3000000 := by omega
  clear hno hp hS
  go_enter Tryf.func7, Tryf.ntmps7
  go_wp2
  rw [h3]
  go_loop [6, 7] (fun a i => ∃ k : Nat, M ≤ k ∧ k + 6 ≤ mid.size ∧ a = .int .i64 (-1) ∧ i = .int .i64 k) (fun _ i => (intOf i).toNat)
  case atStart => exact ⟨mid.size - 6, by omega, by omega, rfl, by congr 1; omega⟩
  case round =>
    obtain ⟨k, hk, hkm, rfl, rfl⟩ := hrel
    have hk0 : (0 : Int) ≤ (k : Int) := by omega
    have hk1 : (k : Int) + 6 ≤ (mid.size : Int) := by omega
    by_cases hlt : M < k
    · have hne := HNO.out k hlt hkm
      have hne' : ((mid.extract k (k + 6)).toList == [32, 111, 118, 101, 114, 32]) = false := by simpa using hne
      go_wp2
      exact ⟨⟨k - 1, by omega, by omega, rfl, by congr 1; omega⟩, by simp [intOf]; omega⟩
    · obtain rfl : k = M := by omega
      go_wp2_with fail
      refine (HP.out w).mono ?_
      rintro e w1 ⟨rfl, hw1⟩
      subst hw1
      go_wp2
      go_ret3
      exact ⟨rfl, rfl⟩

theorem ext_mk (l : List UInt8) (a b : Nat) : (⟨l.toArray⟩ : ByteArray).extract a b = ⟨((l.take b).drop a).toArray⟩ := by
  apply ByteArray.ext
  apply Array.toList_inj.1
  simp [List.extract_eq_take_drop, List.drop_take]

theorem size_mk (l : List UInt8) : (⟨l.toArray⟩ : ByteArray).size = l.length := by simp [ByteArray.size]

theorem mid_of {l a b c : List UInt8} {i j : Nat} (hl : l = a ++ (b ++ c)) (hi : i = a.length) (hj : j = a.length + b.length) : (l.take j).drop i = b := by
  subst hl hi hj
  rw [← List.append_assoc, List.take_left' (by simp), List.drop_left]

/-- The middle of a label. -/
def middle (m : List UInt8) (y : Int) : List UInt8 := m ++ ([32, 111, 118, 101, 114, 32] ++ Lib.itoa y)

theorem label_middle (m : List UInt8) (y : Int) : label m y = [109, 101, 97, 110, 32] ++ (middle m y ++ [32, 121, 101, 97, 114, 115]) := by
  simp [label, middle]

theorem middle_at (m : List UInt8) (y : Int) (t : Nat) : (middle m y)[m.length + t]? = ([32, 111, 118, 101, 114, 32] ++ Lib.itoa y)[t]? := by
  unfold middle
  rw [List.getElem?_append_right (by omega)]
  congr 1
  omega

/-- BEHIND THE METRIC THERE IS NO SECOND " over ". -/
theorem middle_no (m : List UInt8) (y : Int) (i : Nat) (hi : m.length < i) : ¬ ((middle m y).take (i + 6)).drop i = [32, 111, 118, 101, 114, 32] := fun h => by
  have h0 : (middle m y)[i]? = some 32 := by
    have := congrArg (fun l => l[0]?) h
    simpa [List.getElem?_take] using this
  have h1 : (middle m y)[i + 1]? = some 111 := by
    have := congrArg (fun l => l[1]?) h
    simpa [List.getElem?_take] using this
  obtain ⟨t, rfl⟩ : ∃ t, i = m.length + t := ⟨i - m.length, by omega⟩
  rw [middle_at] at h0
  rw [Nat.add_assoc, middle_at] at h1
  match t, hi, h0, h1 with
  | 0, hi, _, _ => omega
  | 1, _, h0, _ => simp at h0
  | 2, _, h0, _ => simp at h0
  | 3, _, h0, _ => simp at h0
  | 4, _, h0, _ => simp at h0
  | 5, _, _, h1 =>
    have : (Lib.itoa y)[0]? = some 111 := by simpa using h1
    exact itoa_no_o y (List.mem_of_getElem? this)
  | t + 6, _, h0, _ =>
    have : (Lib.itoa y)[t]? = some 32 := by
      rw [List.getElem?_append_right (by simp)] at h0
      simpa using h0
    exact itoa_no_space y (List.mem_of_getElem? this)

/-- zzDecodeMean reads a label back. -/
theorem decode_label (m : ByteArray) (y : Int) (w : World) (hs : m.size ≤ 1048576) (h1 : -9223372036854775808 ≤ y) (h2 : y ≤ 9223372036854775807) :
    Calls Tryf.prog 7 #[.string ⟨(label m.data.toList y).toArray⟩] w fun e w' => e = .returned (.tuple #[.string m, .int .i64 y, .bool true]) ∧ w' = w := by
  have hsz : m.size = m.data.toList.length := by cases m; simp [ByteArray.size]
  have li := Lib.itoa_length_le y h1 h2
  have lm : (middle m.data.toList y).length = m.data.toList.length + 6 + (Lib.itoa y).length := by simp [middle]; omega
  have ll := label_length m.data.toList y
  have e6 : (label m.data.toList y).length - 6 = 5 + (middle m.data.toList y).length := by omega
  refine decode _ ⟨(middle m.data.toList y).toArray⟩ m ⟨(Lib.itoa y).toArray⟩ y m.data.toList.length w ?_ ?_ ?_ ?_ ?_ ?_ ?_ ?_ ?_ ?_ (fun w => parse_itoa _ y w rfl h1 h2)
  · rw [size_mk, size_mk]; omega
  · rw [size_mk]; omega
  · rw [ext_mk, ByteArray.toList_eq]
    exact mid_of (a := []) (b := [109, 101, 97, 110, 32]) (label_middle _ y) rfl rfl
  · rw [ext_mk, ByteArray.toList_eq, size_mk]
    exact mid_of (a := [109, 101, 97, 110, 32] ++ middle m.data.toList y) (b := [32, 121, 101, 97, 114, 115]) (c := []) (by rw [label_middle]; simp) (by rw [e6]; simp; omega) (by rw [ll]; simp [lm]; omega)
  · rw [ext_mk, size_mk]
    have e := mid_of (i := 5) (j := (label m.data.toList y).length - 6) (a := [109, 101, 97, 110, 32]) (b := middle m.data.toList y) (label_middle m.data.toList y) rfl (by rw [e6]; rfl)
    rw [e]
  · rw [size_mk]; omega
  · intro i hi _
    rw [ext_mk, ByteArray.toList_eq]
    exact middle_no _ y i hi
  · rw [ext_mk, ByteArray.toList_eq]
    exact mid_of (a := m.data.toList) (b := [32, 111, 118, 101, 114, 32]) rfl rfl rfl
  · rw [ext_mk, size_mk, mid_of (a := m.data.toList ++ [32, 111, 118, 101, 114, 32]) (b := Lib.itoa y) (c := []) (by simp [middle]) (by simp) (by rw [lm]; simp)]
  · have e := mid_of (i := 0) (j := m.data.toList.length) (l := middle m.data.toList y) (a := []) (b := m.data.toList) (c := [32, 111, 118, 101, 114, 32] ++ Lib.itoa y) rfl rfl (by simp)
    rw [ext_mk, e]

theorem dec_long (m : ByteArray) (y : Int) (w : World) (hs : m.size ≤ maxLen) (h : 1048576 < m.size) :
    Calls Tryf.prog 3 #[.string m, .int .i64 y] w fun e w' => e = .returned (.bool true) ∧ Below w.heap.size w w' := by
  unfold maxLen at hs
  go_enter Tryf.func3, Tryf.ntmps3
  go_wp2
  go_ret
  exact ⟨rfl, Below.refl _ _⟩

set_option maxHeartbeats 1000000 in
/-- FnMeanStringDecodes returns true, whatever the metric and the years. -/
theorem dec_law (F : Interp) (m : ByteArray) (y : Int) (w : World) (hF : F.told.answers w.tape) (hs : m.size ≤ maxLen) (hw : (Lit.int .i64 y).wf = true) :
    Calls Tryf.prog 3 #[.string m, .int .i64 y] w fun e w' => e = .returned (.bool true) ∧ Below w.heap.size w w' := by
  by_cases h : 1048576 < m.size
  · exact dec_long m y w hs h
  · have h' : m.size ≤ 1048576 := by omega
    obtain ⟨b1, b2, b3, _⟩ := FmtText.int_bounds64 hw
    have b3' := b3 rfl
    have DL : Hid (∀ w, Calls Tryf.prog 7 #[.string ⟨(label m.data.toList y).toArray⟩] w fun e w' => e = .returned (.tuple #[.string m, .int .i64 y, .bool true]) ∧ w' = w) := ⟨fun w => decode_label m y w h' (by omega) (by omega)⟩
    clear b1 b2 b3 b3' h
    obtain ⟨s, e1⟩ : ∃ s : ByteArray, s = ⟨(label m.data.toList y).toArray⟩ := ⟨_, rfl⟩
    rw [← e1] at DL
    have E1 : Hid (s = ⟨(label m.data.toList y).toArray⟩) := ⟨e1⟩
    clear e1
    go_enter Tryf.func3, Tryf.ntmps3
    go_wp2_with fail
    refine (bytes_dec m y w h').mono ?_
    rintro e w0 ⟨rfl, hw0⟩
    subst hw0
    go_wp2_with fail
    refine (mean_all F m y w0 hF h' hw).mono ?_
    rintro e w1 ⟨rfl, hb1⟩
    rw [← E1.out]
    go_wp2_with fail
    refine (DL.out w1).mono ?_
    rintro e w2 ⟨rfl, hw2⟩
    subst hw2
    go_wp2
    go_ret
    exact ⟨rfl, hb1⟩

end Go.Proofs.Qxb6616242aFmt
