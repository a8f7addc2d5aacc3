/-
  Seat b6616163a: the scans over a slice of KeyOps, on: distinctIn, lastIn.
-/
import Derived.Test.Qxb6616163aScan
namespace Go.Proofs.Qxb6616163a
open Go.RowKit

/-- Is L[k] new among L[lo:k]? -/
def newAt (L : List KOp) (lo k : Nat) : Bool := match L[k]? with | some p => !(seen L lo k p) | none => false
def dcount (L : List KOp) (lo : Nat) : Nat → Nat
  | 0 => 0
  | k + 1 => if lo ≤ k then dcount L lo k + (if newAt L lo k then 1 else 0) else 0

theorem dcount_le (L : List KOp) (lo : Nat) : ∀ k, k ≤ lo → dcount L lo k = 0
  | 0, _ => rfl
  | k + 1, h => by unfold dcount; rw [if_neg (by omega)]
theorem dcount_bd (L : List KOp) (lo : Nat) : ∀ k, dcount L lo k ≤ k
  | 0 => Nat.le_refl _
  | k + 1 => by
    unfold dcount
    have := dcount_bd L lo k
    split
    · split <;> omega
    · omega
theorem dcount_new (L : List KOp) (lo k : Nat) (p : KOp) (h : lo ≤ k) (hp : L[k]? = some p) (hs : seen L lo k p = false) : dcount L lo (k + 1) = dcount L lo k + 1 := by
  have e : newAt L lo k = true := by unfold newAt; rw [hp]; simp [hs]
  rw [dcount, if_pos h, e]; rfl
theorem dcount_old (L : List KOp) (lo k : Nat) (p : KOp) (h : lo ≤ k) (hp : L[k]? = some p) (hs : seen L lo k p = true) : dcount L lo (k + 1) = dcount L lo k := by
  have e : newAt L lo k = false := by unfold newAt; rw [hp]; simp [hs]
  rw [dcount, if_pos h, e]; rfl

def lastI (L : List KOp) (i : Nat) (q : KOp) : Nat → Nat
  | 0 => i
  | k + 1 => match L[k]? with
    | some p => if i < k && sameId p q then k else lastI L i q k
    | none => lastI L i q k

theorem lastI_low (L : List KOp) (i : Nat) (q : KOp) : ∀ k, k ≤ i + 1 → lastI L i q k = i
  | 0, _ => rfl
  | k + 1, h => by
    unfold lastI
    have := lastI_low L i q k (by omega)
    split
    · rw [if_neg (by simp; omega), this]
    · exact this
theorem lastI_hit (L : List KOp) (i k : Nat) (q p : KOp) (h : i < k) (hp : L[k]? = some p) (hs : sameId p q = true) : lastI L i q (k + 1) = k := by
  unfold lastI; rw [hp]; simp [h, hs]
theorem lastI_miss (L : List KOp) (i k : Nat) (q p : KOp) (hp : L[k]? = some p) (hs : sameId p q = false) : lastI L i q (k + 1) = lastI L i q k := by
  conv => lhs; unfold lastI
  rw [hp]; simp [hs]
theorem lastI_bd (L : List KOp) (i : Nat) (q : KOp) : ∀ k, i ≤ lastI L i q k ∧ (lastI L i q k = i ∨ lastI L i q k < k)
  | 0 => ⟨Nat.le_refl _, .inl rfl⟩
  | k + 1 => by
    have := lastI_bd L i q k
    unfold lastI
    split
    · split
      · rename_i h; simp at h; exact ⟨by omega, .inr (by omega)⟩
      · exact ⟨this.1, this.2.imp id (fun h => by omega)⟩
    · exact ⟨this.1, this.2.imp id (fun h => by omega)⟩

attribute [local go_sem ↓] Go.wp_at_zero Go.wp_at_succ

set_option maxHeartbeats 1000000 in
theorem distinctIn_some (b off n c : Nat) (L : List KOp) (lo hi : Nat) (w : World) (hL : L.length = n) (hn : n ≤ maxLen) (hlo : lo ≤ hi) (hhi : hi ≤ n) (h : OpsAt w b off L) (hbw : b < w.heap.size) :
    Calls Try.prog 12 #[.slice (some ⟨b, off, none⟩) n c, .int .i64 lo, .int .i64 hi] w
      fun e w' => e = .returned (.int .i64 (dcount L lo hi)) ∧ Below w.heap.size w w' := by
  have hnm := hn
  unfold maxLen at hn
  have HS : Hid (OpsAt w b off L) := h
  clear h
  go_enter Try.func12, Try.ntmps12
  go_wp2
  go_loopw [7, 8] (fun d i wr => ∃ k : Nat, lo ≤ k ∧ k ≤ hi ∧ i = .int .i64 k ∧ d = .int .i64 (dcount L lo k) ∧ Below w.heap.size w wr) (fun _ i _ => hi - (intOf i).toNat)
  case atStart => exact ⟨lo, Nat.le_refl _, hlo, rfl, by rw [dcount_le L lo lo (Nat.le_refl _)]; rfl, Below.refl _ _⟩
  case round =>
    obtain ⟨k, hk1, hk2, rfl, rfl, hB⟩ := hrel
    have hdb := dcount_bd L lo k
    by_cases hlt : k < hi
    · obtain ⟨p, hp⟩ : ∃ p, L[k]? = some p := ⟨L[k], List.getElem?_eq_getElem (by omega)⟩
      have HB : Hid (Below w.heap.size w wr) := hB
      have HS' : Hid (OpsAt wr b off L) := HS.out.below hB hbw
      obtain ⟨c0, c1, c2, c3, c4, c5, c6⟩ := HS'.out k p hp
      have hlt' : (k : Int) < (hi : Int) := by omega
      have hk0 : (0 : Int) ≤ (k : Int) := by omega
      have hkn : (k : Int) < (n : Int) := by omega
      have hbr : b < wr.heap.size := Nat.lt_of_lt_of_le hbw hB.size
      clear hB
      go_wp2_with fail
      refine (seenIn_some b off n c L lo k p wr hL hnm hk1 (by omega) HS'.out hbr).mono ?_
      rintro e w1 ⟨rfl, hb1⟩
      have HB1 : Hid (Below w.heap.size w w1) := HB.out.trans (hb1.mono HB.out.size)
      clear hb1 c0 c1 c2 c3 c4 c5 c6
      go_wp2
      · go_roundw
        case rel =>
          have hs : seen L lo k p = false := by simpa using ‹(!seen L lo k p) = true›
          exact ⟨k + 1, by omega, by omega, by go_num, by rw [dcount_new L lo k p hk1 hp hs]; go_num, HB1.out⟩
        case measure => simp [intOf]; omega
      · go_roundw
        case rel =>
          have hs : seen L lo k p = true := by simpa using ‹(!seen L lo k p) = false›
          exact ⟨k + 1, by omega, by omega, by go_num, by rw [dcount_old L lo k p hk1 hp hs], HB1.out⟩
        case measure => simp [intOf]; omega
    · obtain rfl : k = hi := by omega
      have HB : Hid (Below w.heap.size w wr) := hB
      clear hB
      go_wp2
      go_ret
      exact ⟨rfl, HB.out⟩

set_option maxHeartbeats 1000000 in
theorem lastIn_some (b off n c : Nat) (L : List KOp) (hi i : Nat) (q : KOp) (w : World) (hL : L.length = n) (hn : n ≤ maxLen) (hlo : i < hi) (hhi : hi ≤ n) (hq : L[i]? = some q) (h : OpsAt w b off L) (hbw : b < w.heap.size) :
    Calls Try.prog 15 #[.slice (some ⟨b, off, none⟩) n c, .int .i64 hi, .int .i64 i] w
      fun e w' => e = .returned (.int .i64 (lastI L i q hi)) ∧ Below w.heap.size w w' := by
  unfold maxLen at hn
  have HS : Hid (OpsAt w b off L) := h
  clear h
  go_enter Try.func15, Try.ntmps15
  go_wp2
  go_loopw [7, 8] (fun j k' wr => ∃ k : Nat, i < k ∧ k ≤ hi ∧ k' = .int .i64 k ∧ j = .int .i64 (lastI L i q k) ∧ Below w.heap.size w wr) (fun _ k' _ => hi - (intOf k').toNat)
  case atStart => exact ⟨i + 1, by omega, by omega, by go_num, by rw [lastI_low L i q (i + 1) (by omega)], Below.refl _ _⟩
  case round =>
    obtain ⟨k, hk1, hk2, rfl, rfl, hB⟩ := hrel
    by_cases hlt : k < hi
    · obtain ⟨p, hp⟩ : ∃ p, L[k]? = some p := ⟨L[k], List.getElem?_eq_getElem (by omega)⟩
      have HB : Hid (Below w.heap.size w wr) := hB
      have HS' : Hid (OpsAt wr b off L) := HS.out.below hB hbw
      obtain ⟨c0, c1, c2, c3, c4, c5, c6⟩ := HS'.out k p hp
      obtain ⟨d0, d1, d2, d3, d4, d5, d6⟩ := HS'.out i q hq
      have hlt' : (k : Int) < (hi : Int) := by omega
      have hk0 : (0 : Int) ≤ (k : Int) := by omega
      have hkn : (k : Int) < (n : Int) := by omega
      have hi0 : (0 : Int) ≤ (i : Int) := by omega
      have hin : (i : Int) < (n : Int) := by omega
      clear hB
      go_wp2
      go_region_held3 (fun w' => w'.cell? ⟨b, off + k * 7, none⟩ = some (.string p.a) ∧ w'.cell? ⟨b, off + k * 7 + 1, none⟩ = some (.string p.b) ∧ w'.cell? ⟨b, off + k * 7 + 2, none⟩ = some (.string p.c) ∧ w'.cell? ⟨b, off + k * 7 + 3, none⟩ = some (.string p.d) ∧ w'.cell? ⟨b, off + k * 7 + 4, none⟩ = some (.string p.e) ∧ w'.cell? ⟨b, off + k * 7 + 5, none⟩ = some (.string p.f) ∧ w'.cell? ⟨b, off + k * 7 + 6, none⟩ = some (.slice p.kp p.kn p.kc) ∧
        w'.cell? ⟨b, off + i * 7, none⟩ = some (.string q.a) ∧ w'.cell? ⟨b, off + i * 7 + 1, none⟩ = some (.string q.b) ∧ w'.cell? ⟨b, off + i * 7 + 2, none⟩ = some (.string q.c) ∧ w'.cell? ⟨b, off + i * 7 + 3, none⟩ = some (.string q.d) ∧ w'.cell? ⟨b, off + i * 7 + 4, none⟩ = some (.string q.e) ∧ w'.cell? ⟨b, off + i * 7 + 5, none⟩ = some (.string q.f) ∧ w'.cell? ⟨b, off + i * 7 + 6, none⟩ = some (.slice q.kp q.kn q.kc)) (go_keep)
        ((go_at_call 19; refine (same_any p q _).mono ?_; rintro e w' ⟨rfl, rfl⟩))
      go_wp2
      · go_roundw
        case rel =>
          have hs : sameId p q = true := by assumption
          exact ⟨k + 1, by omega, by omega, by go_num, by rw [lastI_hit L i k q p hk1 hp hs], below_two HB.out HB.out.size _ _⟩
        case measure => simp [intOf]; omega
      · go_roundw
        case rel =>
          have hs : sameId p q = false := by assumption
          exact ⟨k + 1, by omega, by omega, by go_num, by rw [lastI_miss L i k q p hp hs], below_two HB.out HB.out.size _ _⟩
        case measure => simp [intOf]; omega
    · obtain rfl : k = hi := by omega
      have HB : Hid (Below w.heap.size w wr) := hB
      clear hB
      go_wp2
      go_ret
      exact ⟨rfl, HB.out⟩

end Go.Proofs.Qxb6616163a
