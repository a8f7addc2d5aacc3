/-
  THE PLAIN LAWS: the label tells its metric and its number; no Go in sight.
-/
import Derived.Test.Qxb6616242aFmtCalls
import Derived.Lib.ItoaLen
namespace Go.Proofs.Qxb6616242aFmt
open Go.Extern.Stop Go.Stop Go.Extern

/-- Reading digits downwards, as zzParseInt does. -/
def down (v : Int) : List UInt8 → Int
  | [] => v
  | c :: r => down (v * 10 - ((c.toNat : Int) - 48)) r

theorem down_append (v : Int) (l r : List UInt8) : down v (l ++ r) = down (down v l) r := by
  induction l generalizing v with
  | nil => rfl
  | cons c l ih => exact ih _

/-- A digit. -/
def Dig (c : UInt8) : Prop := 48 ≤ c.toNat ∧ c.toNat ≤ 57

theorem down_le (v : Int) (l : List UInt8) (hl : ∀ c ∈ l, Dig c) (hv : v ≤ 0) : down v l ≤ v := by
  induction l generalizing v with
  | nil => exact Int.le_refl _
  | cons c l ih =>
    have hc := hl c (by simp)
    have h1 : v * 10 - ((c.toNat : Int) - 48) ≤ v := by
      unfold Dig at hc; omega
    exact Int.le_trans (ih _ (fun x hx => hl x (by simp [hx])) (Int.le_trans h1 hv)) h1

theorem digit_nat (k : Nat) (h : k < 10) : (UInt8.ofNat (48 + k)).toNat = 48 + k := by
  simp; omega

theorem dec_dig (u : Nat) : ∀ c ∈ Lib.decDigits u, Dig c := by
  induction u using Nat.strongRecOn with
  | _ u ih =>
    intro c hc
    by_cases h : u < 10
    · rw [Lib.decDigits, dif_pos h] at hc
      simp only [List.mem_singleton] at hc
      subst hc
      unfold Dig
      rw [digit_nat u h]; omega
    · rw [Lib.decDigits, dif_neg h] at hc
      rcases List.mem_append.1 hc with hc | hc
      · exact ih (u / 10) (by omega) c hc
      · simp only [List.mem_singleton] at hc
        subst hc
        unfold Dig
        rw [digit_nat (u % 10) (by omega)]; omega

theorem down_dec (u : Nat) : down 0 (Lib.decDigits u) = -(u : Int) := by
  induction u using Nat.strongRecOn with
  | _ u ih =>
    by_cases h : u < 10
    · rw [Lib.decDigits, dif_pos h]
      simp only [down, digit_nat u h]; omega
    · rw [Lib.decDigits, dif_neg h, down_append, ih (u / 10) (by omega)]
      simp only [down, digit_nat (u % 10) (by omega)]; omega

theorem dec_inj {u v : Nat} (h : Lib.decDigits u = Lib.decDigits v) : u = v := by
  have a := down_dec u
  rw [h, down_dec v] at a
  omega

theorem dec_ne (u : Nat) : Lib.decDigits u ≠ [] := by
  intro h
  have := congrArg List.length h
  rw [Lib.decDigits_length] at this
  have hp := Lib.nDigits_pos u
  simp at this; omega

theorem pow_le_dec (u : Nat) (h : 1 ≤ u) : 10 ^ (Lib.nDigits u - 1) ≤ u := by
  induction u using Nat.strongRecOn with
  | _ u ih =>
    by_cases h10 : u < 10
    · rw [Lib.nDigits_small h10]; simpa using h
    · rw [Lib.nDigits_big h10]
      have := ih (u / 10) (by omega) (by omega)
      have hp := Lib.nDigits_pos (u / 10)
      obtain ⟨q, hq⟩ : ∃ q, Lib.nDigits (u / 10) = q + 1 := ⟨Lib.nDigits (u / 10) - 1, by omega⟩
      rw [hq] at this ⊢
      simp only [Nat.add_sub_cancel] at this ⊢
      rw [Nat.pow_succ]; omega

theorem nDigits_le19 (u : Nat) (h : u ≤ 9223372036854775808) : Lib.nDigits u ≤ 19 := by
  rcases Nat.eq_zero_or_pos u with rfl | h1
  · rw [Lib.nDigits_small (by omega)]; omega
  · have a := pow_le_dec u h1
    rcases Nat.lt_or_ge (Lib.nDigits u) 20 with h2 | h2
    · omega
    · have b : 10 ^ 19 ≤ 10 ^ (Lib.nDigits u - 1) := Nat.pow_le_pow_right (by decide) (by omega)
      have c : (10 : Nat) ^ 19 = 10000000000000000000 := by decide
      omega

theorem itoa_cases (y : Int) : (∃ u : Nat, y = u ∧ Lib.itoa y = Lib.decDigits u) ∨ (∃ u : Nat, 1 ≤ u ∧ y = -(u : Int) ∧ Lib.itoa y = 45 :: Lib.decDigits u) := by
  by_cases h : y < 0
  · exact .inr ⟨y.natAbs, by omega, by omega, by rw [Lib.itoa, if_pos h]⟩
  · exact .inl ⟨y.toNat, by omega, by rw [Lib.itoa, if_neg h]⟩

theorem itoa_no_space (y : Int) : (32 : UInt8) ∉ Lib.itoa y := by
  intro h
  rcases itoa_cases y with ⟨u, _, e⟩ | ⟨u, _, _, e⟩ <;> rw [e] at h
  · have := dec_dig u _ h
    unfold Dig at this; simp at this
  · rcases List.mem_cons.1 h with h | h
    · exact absurd h (by decide)
    · have := dec_dig u _ h
      unfold Dig at this; simp at this

theorem itoa_no_o (y : Int) : (111 : UInt8) ∉ Lib.itoa y := by
  intro h
  rcases itoa_cases y with ⟨u, _, e⟩ | ⟨u, _, _, e⟩ <;> rw [e] at h
  · have := dec_dig u _ h
    unfold Dig at this; simp at this
  · rcases List.mem_cons.1 h with h | h
    · exact absurd h (by decide)
    · have := dec_dig u _ h
      unfold Dig at this; simp at this

theorem itoa_inj {y z : Int} (h : Lib.itoa y = Lib.itoa z) : y = z := by
  rcases itoa_cases y with ⟨u, hy, e⟩ | ⟨u, h1, hy, e⟩ <;> rcases itoa_cases z with ⟨v, hz, f⟩ | ⟨v, h2, hz, f⟩ <;> rw [e, f] at h
  · rw [hy, hz, dec_inj h]
  · have := dec_dig u 45 (by rw [h]; simp)
    unfold Dig at this; simp at this
  · have := dec_dig v 45 (by rw [← h]; simp)
    unfold Dig at this; simp at this
  · rw [hy, hz, dec_inj (List.cons.inj h).2]

/-- The part ahead of the first blank is told. -/
theorem first_blank {c : UInt8} : ∀ {l1 l2 r1 r2 : List UInt8}, c ∉ l1 → c ∉ l2 → l1 ++ c :: r1 = l2 ++ c :: r2 → l1 = l2 ∧ r1 = r2
  | [], [], _, _, _, _, h => ⟨rfl, (List.cons.inj h).2⟩
  | [], x :: l2, _, _, _, h2, h => absurd (List.cons.inj h).1 (fun e => h2 (by simp [e]))
  | x :: l1, [], _, _, h1, _, h => absurd (List.cons.inj h).1 (fun e => h1 (by simp [e]))
  | x :: l1, y :: l2, _, _, h1, h2, h => by
    obtain ⟨e, h⟩ := List.cons.inj h
    obtain ⟨e1, e2⟩ := first_blank (fun k => h1 (by simp [k])) (fun k => h2 (by simp [k])) h
    exact ⟨by rw [e, e1], e2⟩

theorem last_blank {c : UInt8} {l1 l2 r1 r2 : List UInt8} (h1 : c ∉ r1) (h2 : c ∉ r2) (h : l1 ++ c :: r1 = l2 ++ c :: r2) : l1 = l2 ∧ r1 = r2 := by
  have h' := congrArg List.reverse h
  simp only [List.reverse_append, List.reverse_cons, List.append_assoc, List.singleton_append] at h'
  obtain ⟨a, b⟩ := first_blank (by simpa using h1) (by simpa using h2) h'
  exact ⟨List.reverse_inj.1 b, List.reverse_inj.1 a⟩

/-- THE LABEL IS INJECTIVE. -/
theorem label_inj {m1 m2 : List UInt8} {y1 y2 : Int} (h : label m1 y1 = label m2 y2) : m1 = m2 ∧ y1 = y2 := by
  unfold label at h
  have h := List.append_cancel_left h
  have e : ∀ (m : List UInt8) (y : Int), m ++ ([32, 111, 118, 101, 114, 32] ++ (Lib.itoa y ++ [32, 121, 101, 97, 114, 115])) = ((m ++ [32, 111, 118, 101, 114]) ++ 32 :: Lib.itoa y) ++ [32, 121, 101, 97, 114, 115] := fun m y => by simp
  rw [e, e] at h
  have h := List.append_cancel_right h
  obtain ⟨a, b⟩ := last_blank (itoa_no_space y1) (itoa_no_space y2) h
  exact ⟨List.append_cancel_right a, itoa_inj b⟩

end Go.Proofs.Qxb6616242aFmt
