/-
  THE LAW's WALK: FnCheckGroupNameOneByteMoreAnywhere returns true at every input.
-/
import Derived.Test.Qxb6616130aFmtCalls
import Derived.OwnWalk
import Derived.Lib.BufSteps
import Derived.Laws.IdiomStrings
namespace Go.Proofs.Qxb6616130aFmt
open Go.RowKit Go.Extern.Stop Go.Stop Go.Extern Go.Lib

theorem more_long (s : ByteArray) (k c : Int) (w : World) (hs : s.size ≤ maxLen) (h : 65536 < s.size) :
    Calls Tryf.prog 5 #[.string s, .int .i64 k, .int .u8 c] w fun e w' => e = .returned (.bool true) ∧ Below w.heap.size w w' := by
  unfold maxLen at hs
  by_cases h2 : 1048576 < s.size
  · go_enter Tryf.func5, Tryf.ntmps5
    go_wp2
    go_ret
    exact ⟨rfl, Below.refl _ _⟩
  · go_enter Tryf.func5, Tryf.ntmps5
    go_wp2
    go_ret
    exact ⟨rfl, Below.refl _ _⟩

theorem more_out (s : ByteArray) (k c : Int) (w : World) (h : s.size ≤ 65536) (hk : k < 0 ∨ (s.size : Int) < k) :
    Calls Tryf.prog 5 #[.string s, .int .i64 k, .int .u8 c] w fun e w' => e = .returned (.bool true) ∧ Below w.heap.size w w' := by
  by_cases hk0 : k < 0
  · go_enter Tryf.func5, Tryf.ntmps5
    go_wp2
    go_ret
    exact ⟨rfl, Below.refl _ _⟩
  · have hk1 : (s.size : Int) < k := by omega
    go_enter Tryf.func5, Tryf.ntmps5
    go_wp2
    go_ret
    exact ⟨rfl, Below.refl _ _⟩

theorem info5 : (Tryf.prog.info? 5).map (fun i => (i.zero, i.size, i.bytes)) = some (some (.int .u8 0), 1, 1) := by kernel_rfl

/-- The bytes of the longer name. -/
def longer (s : ByteArray) (p : Nat) (c : Int) : List UInt8 := (s.extract 0 p).data.toList ++ UInt8.ofNat c.toNat :: (s.extract p s.size).data.toList

theorem longer_size (s : ByteArray) (p : Nat) (c : Int) (hp : p ≤ s.size) : (⟨(longer s p c).toArray⟩ : ByteArray).size = s.size + 1 := by
  have e0 : (s.extract 0 p).data.toList.length = p := by rw [← size_len, ByteArray.size_extract]; omega
  have e1 : (s.extract p s.size).data.toList.length = s.size - p := by rw [← size_len, ByteArray.size_extract]; omega
  rw [size_len]
  simp only [longer, List.length_append, e0, e1, List.length_cons]
  omega

theorem cells_longer (s : ByteArray) (p : Nat) (c : Int) (wc : 0 ≤ c ∧ c ≤ 255) : strCells (s.extract 0 p) ++ Value.int .u8 c :: strCells (s.extract p s.size) = (longer s p c).map fun b => Value.int .u8 b.toNat := by
  have hc : ((UInt8.ofNat c.toNat).toNat : Int) = c := by
    rw [UInt8.toNat_ofNat']
    omega
  simp only [strCells, longer, List.map_append, List.map_cons, hc]

/-- 'string(buf)'. -/
theorem conv_longer (s : ByteArray) (p : Nat) (c : Int) (wc : 0 ≤ c ∧ c ≤ 255) (B n : Nat) (v : Value) (W0 w : World) (hn : n = (longer s p c).length) (h0 : 0 < n)
    (hb : OwnBuf B 5 v n (strCells (s.extract 0 p) ++ Value.int .u8 c :: strCells (s.extract p s.size)) W0 w) :
    (convert 22 9 v).run Tryf.prog w = .ok (.string ⟨(longer s p c).toArray⟩) w := by
  rcases hb.1.2 with ⟨_, hz⟩ | ⟨g, cap, cur, fz, hv, _⟩
  · omega
  · have hc := hb.1.cells (g := g) (by rw [hv]; rfl)
    rw [cells_longer s p c wc] at hc
    rw [hv, hn]
    exact run_convert_bytes_back w 22 9 5 ⟨g, 0, none⟩ cap (longer s p c) Tryf.underlying22 Tryf.underlying5 Tryf.underlying9 (fun j hj => hc j _ (by simp [hj]))

set_option maxHeartbeats 1000000 in
theorem more_way (F : Interp) (s : ByteArray) (p : Nat) (c : Int) (w : World) (hF : F.answers w.tape) (h : s.size ≤ 65536) (hp : p ≤ s.size) (wc : 0 ≤ c ∧ c ≤ 255)
    (bn bt en : Bool) (hn : okB s = bn) (ht : okB ⟨(longer s p c).toArray⟩ = bt) (hen : s.toList.isEmpty = en) :
    Calls Tryf.prog 5 #[.string s, .int .i64 p, .int .u8 c] w fun e w' => e = .returned (.bool true) ∧ Below w.heap.size w w' := by
  have xn : bn = decide (1 ≤ s.size ∧ s.size ≤ 256) := hn.symm
  have xt : bt = decide (1 ≤ s.size + 1 ∧ s.size + 1 ≤ 256) := by rw [← ht, okB, longer_size s p c hp]
  have xen : en = decide (s.size = 0) := by rw [← hen, isEmpty_iff]
  have XN : Hid (bn = decide (1 ≤ s.size ∧ s.size ≤ 256)) := xn
  have XT : Hid (bt = decide (1 ≤ s.size + 1 ∧ s.size + 1 ≤ 256)) := xt
  have XE : Hid (en = decide (s.size = 0)) := xen
  have HN : Hid (okB s = bn) := hn
  have HT : Hid (okB ⟨(longer s p c).toArray⟩ = bt) := ht
  have HE : Hid (s.toList.isEmpty = en) := hen
  clear xn xt xen hn ht hen
  obtain ⟨i5, hi, hz0, hz1, hz2⟩ := info_parts info5
  go_enter Tryf.func5, Tryf.ntmps5
  go_wp2_with fail
  refine (bytes_more _ _ _ _ (by omega)).mono ?_
  rintro e w0 ⟨rfl, hw0⟩
  subst hw0
  go_wp2_with (first | (at_make; refine wpList_make_own _ rfl _ _ 22 rfl w0.heap.size 5 i5 (.int .u8 0) 1 Tryf.underlying22 hi hz0 hz1 _ _ _ (s.size + 1) rfl rfl (by omega) (by rw [hz2]; omega) (by unfold maxLen; omega) (Nat.le_refl _) ?_))
  intro w1 hown1 hg1
  have hb1 : OwnBuf w0.heap.size 5 (.slice (some ⟨w0.heap.size, 0, none⟩) 0 (s.size + 1)) 0 [] w0 w1 := ⟨World.ownsRowF_of hown1, (Below.refl _ _).grown hg1 (Nat.le_refl _) (fun k hk => by cases hk), hg1.size⟩
  clear hown1 hg1
  have e0 : (s.extract 0 p).size = p := by rw [ByteArray.size_extract]; omega
  have e1 : (s.extract p s.size).size = s.size - p := by rw [ByteArray.size_extract]; omega
  go_wp2_with (first | (at_builtin; refine wpList_append_text rfl _ _ 22 9 rfl w0.heap.size 5 i5 Tryf.underlying22 Tryf.underlying9 hi hz0 hz1 hz2 _ 0 [] rfl w0 hb1 (s.extract 0 p) rfl ?_ ?_))
  · omega
  intro v2 w2 hb2
  go_wp2_with (first | (at_builtin; refine wpList_append_byte rfl _ _ 22 rfl w0.heap.size 5 i5 Tryf.underlying22 hi hz0 hz1 hz2 v2 _ _ rfl w0 w2 c hb2 rfl ?_ ?_))
  · omega
  intro v3 w3 hb3
  go_wp2_with (first | (at_builtin; refine wpList_append_text rfl _ _ 22 9 rfl w0.heap.size 5 i5 Tryf.underlying22 Tryf.underlying9 hi hz0 hz1 hz2 v3 _ _ rfl w0 hb3 (s.extract p s.size) rfl ?_ ?_))
  · omega
  intro v4 w4 hb4
  have hL : (longer s p c).length = s.size + 1 := by rw [← longer_size s p c hp, size_len]
  have hcv : (convert 22 9 v4).run Tryf.prog w4 = .ok (.string ⟨(longer s p c).toArray⟩) w4 := by
    refine conv_longer s p c wc _ _ v4 w0 w4 ?_ ?_ hb4
    · omega
    · omega
  clear hL hb1 hb2 hb3
  have hF4 : F.answers w4.tape := by rw [hb4.2.1.tape]; exact hF
  have hB4 := hb4.2.1
  have hz4 : w0.heap.size ≤ w4.heap.size := hb4.2.2
  clear hb4
  go_wp2_with fail
  have hn := HN.out
  have ht := HT.out
  have hen := HE.out
  have xn := XN.out
  have xt := XT.out
  have xen := XE.out
  clear HN HT HE XN XT XE hcv e0 e1 hi hz0 hz1 hz2
  cases bn <;> cases bt <;> cases en <;>
    simp only [Bool.false_eq, Bool.true_eq, decide_eq_true_eq, decide_eq_false_iff_not] at xn xt xen <;>
    first
    | (exfalso; omega)
    | (clear xen
       try (have y1 : (1 : Int) ≤ s.size := by omega)
       try (have y2 : (s.size : Int) ≤ 256 := by omega)
       try (have y3 : (s.size : Int) ≤ 255 := by omega)
       try (have y4 : (256 : Int) < s.size := by omega)
       try (have y5 : (255 : Int) < s.size := by omega)
       first | refine (check_ok _ _ hn).mono ?_ | refine (check_bad F _ _ hF4 hn).mono ?_
       rintro e w5 ⟨rfl, hb5⟩
       have hF5 : F.answers w5.tape := by rw [hb5.tape]; exact hF4
       go_wp2_with fail
       first | refine (check_ok _ _ ht).mono ?_ | refine (check_bad F _ _ hF5 ht).mono ?_
       rintro e w6 ⟨rfl, hb6⟩
       have hz5 := hb5.size
       go_wp2
       all_goals go_ret
       all_goals exact ⟨rfl, (hB4.trans (hb5.mono hz4)).trans (hb6.mono (Nat.le_trans hz4 hz5))⟩)

/-- FnCheckGroupNameOneByteMoreAnywhere returns true, whatever the name, the place and the byte. -/
theorem more_law (F : Interp) (s : ByteArray) (k c : Int) (w : World) (hF : F.answers w.tape) (hs : s.size ≤ maxLen) (wc : 0 ≤ c ∧ c ≤ 255) :
    Calls Tryf.prog 5 #[.string s, .int .i64 k, .int .u8 c] w fun e w' => e = .returned (.bool true) ∧ Below w.heap.size w w' := by
  by_cases h : 65536 < s.size
  · exact more_long s k c w hs h
  · by_cases hk : k < 0 ∨ (s.size : Int) < k
    · exact more_out s k c w (by omega) hk
    · obtain ⟨m, rfl⟩ := Int.eq_ofNat_of_zero_le (show 0 ≤ k by omega)
      exact more_way F s m c w hF (by omega) (by omega) wc _ _ _ rfl rfl rfl

end Go.Proofs.Qxb6616130aFmt
