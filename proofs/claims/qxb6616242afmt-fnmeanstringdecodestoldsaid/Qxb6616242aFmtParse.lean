/-
  zzParseInt READS A NUMERAL BACK.
-/
import Derived.Test.Qxb6616242aFmtInjWalk
namespace Go.Proofs.Qxb6616242aFmt
open Go.RowKit Go.Kit Go.Extern.Stop Go.Stop Go.Extern

theorem bytes_getElem? (d : ByteArray) (k : Nat) : d[k]? = d.data.toList[k]? := by
  by_cases h : k < d.size
  · have h' : k < d.data.toList.length := by cases d; simpa [ByteArray.size] using h
    rw [List.getElem?_eq_getElem h', getElem?_pos d k h]
    rfl
  · have h' : ¬ k < d.data.toList.length := by cases d; simpa [ByteArray.size] using h
    rw [List.getElem?_eq_none (by omega), getElem?_neg d k h]

/-- One digit further. -/
theorem step {D : List UInt8} {u j : Nat} {x : Int} (hD : ∀ c ∈ D, Dig c) (hv : down 0 D = -(u : Int)) (hu : u ≤ 9223372036854775808) (hj : j < D.length) (hx : x = down 0 (D.take j)) :
    ∃ c, D[j]? = some c ∧ Dig c ∧ x * 10 - ((c.toNat : Int) - 48) = down 0 (D.take (j + 1)) ∧ -9223372036854775808 ≤ x * 10 ∧ x * 10 ≤ 0 ∧ -9223372036854775808 ≤ x * 10 - ((c.toNat : Int) - 48) := by
  have e : D[j]? = some D[j] := List.getElem?_eq_getElem hj
  have hc := hD _ (List.getElem_mem hj)
  have h1 : D.take (j + 1) = D.take j ++ [D[j]] := by rw [List.take_add_one, e]; rfl
  have hs : x * 10 - ((D[j].toNat : Int) - 48) = down 0 (D.take (j + 1)) := by rw [h1, down_append, ← hx]; rfl
  have hx0 : x ≤ 0 := by rw [hx]; exact down_le 0 _ (fun c h => hD c (List.mem_of_mem_take h)) (Int.le_refl _)
  have hs0 : down 0 (D.take (j + 1)) ≤ 0 := down_le 0 _ (fun c h => hD c (List.mem_of_mem_take h)) (Int.le_refl _)
  have hfin : down 0 D ≤ down 0 (D.take (j + 1)) := by
    have := down_append 0 (D.take (j + 1)) (D.drop (j + 1))
    rw [List.take_append_drop] at this
    rw [this]
    exact down_le _ _ (fun c h => hD c (List.mem_of_mem_drop h)) hs0
  unfold Dig at hc
  exact ⟨_, e, hc, hs, by omega, by omega, by omega⟩

set_option maxHeartbeats 1000000 in
theorem parse_pos (d : ByteArray) (D : List UInt8) (u : Nat) (w : World) (hd : d.data.toList = D) (hD : ∀ c ∈ D, Dig c) (hz : D ≠ []) (hv : down 0 D = -(u : Int)) (hu : u ≤ 9223372036854775807) (hn : D.length ≤ 19) :
    Calls Tryf.prog 11 #[.string d] w fun e w' => e = .returned (.tuple #[.int .i64 ((u : Int)), .bool true]) ∧ w' = w := by
  have hs : d.size = D.length + 0 := by
    have : d.size = d.data.toList.length := by cases d; simp [ByteArray.size]
    rw [this, hd]; simp
  have hz' : 0 < D.length := List.length_pos_iff.2 hz
  have hat : ∀ (j : Nat) (c : UInt8), D[j]? = some c → d[j + 0]? = some c := fun j c h => by
    have : d[j + 0]? = d.data.toList[j + 0]? := bytes_getElem? d _
    rw [this, hd]; simpa using h
  obtain ⟨N, hN⟩ : ∃ N, N = D.length := ⟨_, rfl⟩
  rw [← hN] at hs hz' hn
  obtain ⟨c0, hc0⟩ : ∃ c0, D[0]? = some c0 := ⟨D[0]'(by omega), List.getElem?_eq_getElem _⟩
  have hf : d[0]? = some c0 := hat 0 c0 hc0
  have hf0 : Dig c0 := hD c0 (List.mem_of_getElem? hc0)
  have HD : Hid (∀ c ∈ D, Dig c) := ⟨hD⟩
  have HV : Hid (down 0 D = -(u : Int)) := ⟨hv⟩
  have HAT : Hid (∀ (j : Nat) (c : UInt8), D[j]? = some c → d[j + 0]? = some c) := ⟨hat⟩
  have HN : Hid (N = D.length) := ⟨hN⟩
  clear hD hv hat hN hd hz
  have HS : Hid (d.size = N + 0) := ⟨hs⟩
  have hs3 : 0 < d.size := by omega
  have q1 : ¬ d = ByteArray.empty := fun e => by rw [e] at hs3; exact absurd hs3 (by decide)
  have q2 : ((d.size : Int) == 0) = false := by rw [beq_eq_false_iff_ne]; omega
  have q3 : (d.size : Int) ≤ 20 := by omega
  
  have HF : Hid (d[0]? = some c0) := ⟨hf⟩
  have q5 : (((d[0]'hs3).toNat : Int) == 45) = false := by
    have : d[0]'hs3 = c0 := by
      have := HF.out
      rw [getElem?_pos d 0 hs3] at this
      exact Option.some.inj this
    rw [this]
    rw [beq_eq_false_iff_ne]; unfold Dig at hf0; omega
  clear hs hf
  go_enter Tryf.func11, Tryf.ntmps11
  go_wp2
  go_loop [5, 6] (fun i v => ∃ (k : Nat) (x : Int), 0 ≤ k ∧ k ≤ d.size ∧ i = .int .i64 k ∧ v = .int .i64 x ∧ Hid (x = down 0 (D.take (k - 0)))) (fun i _ => d.size - (intOf i).toNat)
  case atStart => exact ⟨0, 0, Nat.le_refl _, by omega, rfl, rfl, ⟨rfl⟩⟩
  case round =>
    obtain ⟨k, x, hk, hkd, rfl, rfl, HX⟩ := hrel
    by_cases hlt : k < d.size
    · have hk1 : (k : Int) < (d.size : Int) := by omega
      have hk0 : (0 : Int) ≤ (k : Int) := by omega
      obtain ⟨c, hc, hb, hx1, hx2, hx3, hx4⟩ := step HD.out HV.out (by omega) (by rw [← HN.out]; have := HS.out; omega) HX.out
      have hdc : d[k]'hlt = c := by
        have := HAT.out _ _ hc
        rw [Nat.sub_add_cancel hk, getElem?_pos d k hlt] at this
        exact Option.some.inj this
      have HX1 : Hid (x * 10 - ((c.toNat : Int) - 48) = down 0 (D.take (k + 1 - 0))) := ⟨by rw [hx1, show k - 0 + 1 = k + 1 - 0 by omega]⟩
      obtain ⟨hb1, hb2⟩ := hb
      have hb1' : (48 : Int) ≤ (c.toNat : Int) := by omega
      have hb2' : (c.toNat : Int) ≤ 57 := by omega
      clear hx1 hc
      go_wp2
      exact ⟨⟨k + 1, _, by omega, by omega, by simp, rfl, HX1⟩, by simp [intOf]; omega⟩
    · have hk1 : ¬ (k : Int) < (d.size : Int) := by omega
      have hxv : x = -(u : Int) := by
        rw [HX.out, ← HV.out]
        congr 1
        exact List.take_of_length_le (by have := HS.out; rw [← HN.out]; omega)
      go_wp2
      go_ret2
      exact ⟨rfl, rfl⟩

set_option maxHeartbeats 1000000 in
theorem parse_neg (d : ByteArray) (D : List UInt8) (u : Nat) (w : World) (hd : d.data.toList = 45 :: D) (hD : ∀ c ∈ D, Dig c) (hz : D ≠ []) (hv : down 0 D = -(u : Int)) (hu : u ≤ 9223372036854775808) (hn : D.length ≤ 19) :
    Calls Tryf.prog 11 #[.string d] w fun e w' => e = .returned (.tuple #[.int .i64 (-(u : Int)), .bool true]) ∧ w' = w := by
  have hs : d.size = D.length + 1 := by
    have : d.size = d.data.toList.length := by cases d; simp [ByteArray.size]
    rw [this, hd]; simp
  have hz' : 0 < D.length := List.length_pos_iff.2 hz
  have hat : ∀ (j : Nat) (c : UInt8), D[j]? = some c → d[j + 1]? = some c := fun j c h => by
    have : d[j + 1]? = d.data.toList[j + 1]? := bytes_getElem? d _
    rw [this, hd]; simpa using h
  obtain ⟨N, hN⟩ : ∃ N, N = D.length := ⟨_, rfl⟩
  rw [← hN] at hs hz' hn
  have hf : d[0]? = some 45 := by rw [bytes_getElem? d 0, hd]; rfl
  have HD : Hid (∀ c ∈ D, Dig c) := ⟨hD⟩
  have HV : Hid (down 0 D = -(u : Int)) := ⟨hv⟩
  have HAT : Hid (∀ (j : Nat) (c : UInt8), D[j]? = some c → d[j + 1]? = some c) := ⟨hat⟩
  have HN : Hid (N = D.length) := ⟨hN⟩
  clear hD hv hat hN hd hz
  have HS : Hid (d.size = N + 1) := ⟨hs⟩
  have hs3 : 0 < d.size := by omega
  have q1 : ¬ d = ByteArray.empty := fun e => by rw [e] at hs3; exact absurd hs3 (by decide)
  have q2 : ((d.size : Int) == 0) = false := by rw [beq_eq_false_iff_ne]; omega
  have q3 : (d.size : Int) ≤ 20 := by omega
  have q4 : ((d.size : Int) == 1) = false := by rw [beq_eq_false_iff_ne]; omega
  have HF : Hid (d[0]? = some 45) := ⟨hf⟩
  have q5 : (((d[0]'hs3).toNat : Int) == 45) = true := by
    have : d[0]'hs3 = 45 := by
      have := HF.out
      rw [getElem?_pos d 0 hs3] at this
      exact Option.some.inj this
    rw [this]
    rfl
  clear hs hf
  go_enter Tryf.func11, Tryf.ntmps11
  go_wp2
  go_loop [5, 6] (fun i v => ∃ (k : Nat) (x : Int), 1 ≤ k ∧ k ≤ d.size ∧ i = .int .i64 k ∧ v = .int .i64 x ∧ Hid (x = down 0 (D.take (k - 1)))) (fun i _ => d.size - (intOf i).toNat)
  case atStart => exact ⟨1, 0, Nat.le_refl _, by omega, rfl, rfl, ⟨rfl⟩⟩
  case round =>
    obtain ⟨k, x, hk, hkd, rfl, rfl, HX⟩ := hrel
    by_cases hlt : k < d.size
    · have hk1 : (k : Int) < (d.size : Int) := by omega
      have hk0 : (0 : Int) ≤ (k : Int) := by omega
      obtain ⟨c, hc, hb, hx1, hx2, hx3, hx4⟩ := step HD.out HV.out (by omega) (by rw [← HN.out]; have := HS.out; omega) HX.out
      have hdc : d[k]'hlt = c := by
        have := HAT.out _ _ hc
        rw [Nat.sub_add_cancel hk, getElem?_pos d k hlt] at this
        exact Option.some.inj this
      have HX1 : Hid (x * 10 - ((c.toNat : Int) - 48) = down 0 (D.take (k + 1 - 1))) := ⟨by rw [hx1, show k - 1 + 1 = k + 1 - 1 by omega]⟩
      obtain ⟨hb1, hb2⟩ := hb
      have hb1' : (48 : Int) ≤ (c.toNat : Int) := by omega
      have hb2' : (c.toNat : Int) ≤ 57 := by omega
      clear hx1 hc
      go_wp2
      exact ⟨⟨k + 1, _, by omega, by omega, by simp, rfl, HX1⟩, by simp [intOf]; omega⟩
    · have hk1 : ¬ (k : Int) < (d.size : Int) := by omega
      have hxv : x = -(u : Int) := by
        rw [HX.out, ← HV.out]
        congr 1
        exact List.take_of_length_le (by have := HS.out; rw [← HN.out]; omega)
      go_wp2
      go_ret2
      exact ⟨rfl, rfl⟩

/-- zzParseInt reads the numeral of an int back. -/
theorem parse_itoa (d : ByteArray) (y : Int) (w : World) (hd : d.data.toList = Lib.itoa y) (h1 : -9223372036854775808 ≤ y) (h2 : y ≤ 9223372036854775807) :
    Calls Tryf.prog 11 #[.string d] w fun e w' => e = .returned (.tuple #[.int .i64 y, .bool true]) ∧ w' = w := by
  rcases itoa_cases y with ⟨u, hy, e⟩ | ⟨u, hu, hy, e⟩
  · rw [e] at hd
    rw [hy]
    exact parse_pos d _ u w hd (dec_dig u) (dec_ne u) (down_dec u) (by omega) (by rw [Lib.decDigits_length]; exact nDigits_le19 u (by omega))
  · rw [e] at hd
    rw [hy]
    exact parse_neg d _ u w hd (dec_dig u) (dec_ne u) (down_dec u) (by omega) (by rw [Lib.decDigits_length]; exact nDigits_le19 u (by omega))

end Go.Proofs.Qxb6616242aFmt
