/-
  Seat b6616163a: the scans over a slice of KeyOps: seenIn, distinctIn, lastIn.
-/
import Derived.Test.Qxb6616163aLeaf
import Derived.Deep.RegionHeld3
import Derived.Deep.DrawnRows
import Derived.Deep.LoopGhost
namespace Go.Proofs.Qxb6616163a
open Go.RowKit

/-- The seven cells of one KeyOp, from an offset on. -/
def CellsAt (w : World) (b off : Nat) (o : KOp) : Prop :=
  w.cell? ⟨b, off, none⟩ = some (.string o.a) ∧ w.cell? ⟨b, off + 1, none⟩ = some (.string o.b) ∧ w.cell? ⟨b, off + 2, none⟩ = some (.string o.c) ∧ w.cell? ⟨b, off + 3, none⟩ = some (.string o.d) ∧
  w.cell? ⟨b, off + 4, none⟩ = some (.string o.e) ∧ w.cell? ⟨b, off + 5, none⟩ = some (.string o.f) ∧ w.cell? ⟨b, off + 6, none⟩ = some (.slice o.kp o.kn o.kc)

/-- A slice of KeyOps that reads as L. -/
def OpsAt (w : World) (b off : Nat) (L : List KOp) : Prop := ∀ i o, L[i]? = some o → CellsAt w b (off + i * 7) o

theorem CellsAt.lt {w : World} {b off : Nat} {o : KOp} (h : CellsAt w b off o) : b < w.heap.size := World.block_lt_of_cell? w _ h.1
theorem CellsAt.below {w w' : World} {B b off : Nat} {o : KOp} (h : CellsAt w b off o) (hb : Below B w w') (hB : b < B) : CellsAt w' b off o := by
  obtain ⟨h0, h1, h2, h3, h4, h5, h6⟩ := h
  refine ⟨?_, ?_, ?_, ?_, ?_, ?_, ?_⟩ <;> (rw [hb.cell hB]; assumption)
theorem OpsAt.below {w w' : World} {B b off : Nat} {L : List KOp} (h : OpsAt w b off L) (hb : Below B w w') (hB : b < B) : OpsAt w' b off L := fun i o ho => (h i o ho).below hb hB

def seen (L : List KOp) (lo hi : Nat) (o : KOp) : Bool := ((L.take hi).drop lo).any (fun p => sameId p o)

theorem seen_same (L : List KOp) (lo : Nat) (o : KOp) : seen L lo lo o = false := by
  unfold seen
  rw [List.drop_of_length_le (by simp [List.length_take]; omega)]
  rfl
theorem seen_succ (L : List KOp) (lo k : Nat) (o p : KOp) (h1 : lo ≤ k) (hp : L[k]? = some p) : seen L lo (k + 1) o = (seen L lo k o || sameId p o) := by
  unfold seen
  have hk : k < L.length := (List.getElem?_eq_some_iff.1 hp).1
  have e : L.take (k + 1) = L.take k ++ [p] := by
    rw [List.take_add_one, hp]; rfl
  rw [e, List.drop_append_of_le_length (by simp; omega), List.any_append]
  simp

theorem seen_of (L : List KOp) (lo hi k : Nat) (o p : KOp) (h1 : lo ≤ k) (h2 : k < hi) (hp : L[k]? = some p) (hs : sameId p o = true) : seen L lo hi o = true := by
  unfold seen
  rw [List.any_eq_true]
  refine ⟨p, ?_, hs⟩
  have : ((L.take hi).drop lo)[k - lo]? = some p := by
    rw [List.getElem?_drop, List.getElem?_take, show lo + (k - lo) = k by omega, if_pos h2, hp]
  exact List.mem_of_getElem? this

theorem below_two {B : Nat} {a w : World} (h : Below B a w) (hB : B ≤ w.heap.size) (o1 o2 : Obj) : Below B a ((w.alloc o1).alloc o2).drew :=
  ((h.alloc hB o1).alloc (by simp; omega) o2).drew

attribute [local go_sem ↓] Go.wp_at_zero Go.wp_at_succ

set_option maxHeartbeats 1000000 in
theorem seenIn_some (b off n c : Nat) (L : List KOp) (lo hi : Nat) (o : KOp) (w : World) (hL : L.length = n) (hn : n ≤ maxLen) (hlo : lo ≤ hi) (hhi : hi ≤ n) (h : OpsAt w b off L) (hbw : b < w.heap.size) :
    Calls Try.prog 8 #[.slice (some ⟨b, off, none⟩) n c, .int .i64 lo, .int .i64 hi, .agg #[.string o.a, .string o.b, .string o.c, .string o.d, .string o.e, .string o.f, .slice o.kp o.kn o.kc]] w
      fun e w' => e = .returned (.bool (seen L lo hi o)) ∧ Below w.heap.size w w' := by
  unfold maxLen at hn
  have HS : Hid (OpsAt w b off L) := h
  clear h
  go_enter Try.func8, Try.ntmps8
  go_wp2
  go_loopw [9] (fun i wr => ∃ k : Nat, lo ≤ k ∧ k ≤ hi ∧ i = .int .i64 k ∧ Hid (seen L lo k o = false) ∧ Below (w.heap.size + 1) (w.alloc (.cells #[.string o.a, .string o.b, .string o.c, .string o.d, .string o.e, .string o.f, .slice o.kp o.kn o.kc] 29)) wr) (fun i _ => hi - (intOf i).toNat)
  case atStart => exact ⟨lo, Nat.le_refl _, hlo, rfl, seen_same L lo o, Below.refl _ _⟩
  case round =>
    obtain ⟨k, hk1, hk2, rfl, HK, hB⟩ := hrel
    by_cases hlt : k < hi
    · obtain ⟨p, hp⟩ : ∃ p, L[k]? = some p := ⟨L[k], List.getElem?_eq_getElem (by omega)⟩
      have hB0 : Below w.heap.size w wr := ((Below.refl _ w).alloc (Nat.le_refl _) _).trans (hB.mono (Nat.le_succ _))
      have HB0 : Hid (Below w.heap.size w wr) := hB0
      obtain ⟨c0, c1, c2, c3, c4, c5, c6⟩ := (HS.out k p hp).below hB0 hbw
      have hlt' : (k : Int) < (hi : Int) := by omega
      have hk0 : (0 : Int) ≤ (k : Int) := by omega
      have hkn : (k : Int) < (n : Int) := by omega
      have d0 : wr.cell? ⟨w.heap.size, 0, none⟩ = some (.string o.a) := by rw [hB.cell (p := ⟨w.heap.size, 0, none⟩) (Nat.lt_succ_self _)]; simp
      have d1 : wr.cell? ⟨w.heap.size, 1, none⟩ = some (.string o.b) := by rw [hB.cell (p := ⟨w.heap.size, 1, none⟩) (Nat.lt_succ_self _)]; simp
      have d2 : wr.cell? ⟨w.heap.size, 2, none⟩ = some (.string o.c) := by rw [hB.cell (p := ⟨w.heap.size, 2, none⟩) (Nat.lt_succ_self _)]; simp
      have d3 : wr.cell? ⟨w.heap.size, 3, none⟩ = some (.string o.d) := by rw [hB.cell (p := ⟨w.heap.size, 3, none⟩) (Nat.lt_succ_self _)]; simp
      have d4 : wr.cell? ⟨w.heap.size, 4, none⟩ = some (.string o.e) := by rw [hB.cell (p := ⟨w.heap.size, 4, none⟩) (Nat.lt_succ_self _)]; simp
      have d5 : wr.cell? ⟨w.heap.size, 5, none⟩ = some (.string o.f) := by rw [hB.cell (p := ⟨w.heap.size, 5, none⟩) (Nat.lt_succ_self _)]; simp
      have d6 : wr.cell? ⟨w.heap.size, 6, none⟩ = some (.slice o.kp o.kn o.kc) := by rw [hB.cell (p := ⟨w.heap.size, 6, none⟩) (Nat.lt_succ_self _)]; simp
      have HB : Hid (Below (w.heap.size + 1) (w.alloc (.cells #[.string o.a, .string o.b, .string o.c, .string o.d, .string o.e, .string o.f, .slice o.kp o.kn o.kc] 29)) wr) := hB
      clear hB hB0
      go_wp2
      go_region_held3 (fun w' => w'.cell? ⟨b, off + k * 7, none⟩ = some (.string p.a) ∧ w'.cell? ⟨b, off + k * 7 + 1, none⟩ = some (.string p.b) ∧ w'.cell? ⟨b, off + k * 7 + 2, none⟩ = some (.string p.c) ∧ w'.cell? ⟨b, off + k * 7 + 3, none⟩ = some (.string p.d) ∧ w'.cell? ⟨b, off + k * 7 + 4, none⟩ = some (.string p.e) ∧ w'.cell? ⟨b, off + k * 7 + 5, none⟩ = some (.string p.f) ∧ w'.cell? ⟨b, off + k * 7 + 6, none⟩ = some (.slice p.kp p.kn p.kc) ∧
        w'.cell? ⟨w.heap.size, 0, none⟩ = some (.string o.a) ∧ w'.cell? ⟨w.heap.size, 1, none⟩ = some (.string o.b) ∧ w'.cell? ⟨w.heap.size, 2, none⟩ = some (.string o.c) ∧ w'.cell? ⟨w.heap.size, 3, none⟩ = some (.string o.d) ∧ w'.cell? ⟨w.heap.size, 4, none⟩ = some (.string o.e) ∧ w'.cell? ⟨w.heap.size, 5, none⟩ = some (.string o.f) ∧ w'.cell? ⟨w.heap.size, 6, none⟩ = some (.slice o.kp o.kn o.kc)) (go_keep)
        ((go_at_call 19; refine (same_any p o _).mono ?_; rintro e w' ⟨rfl, rfl⟩))
      go_wp2
      · go_ret
        exact ⟨ret_bool (seen_of L lo hi k o p hk1 hlt hp (by assumption)).symm, below_two HB0.out HB0.out.size _ _⟩
      · go_roundw
        case rel =>
          have hsf : sameId p o = false := by assumption
          exact ⟨k + 1, by omega, by omega, by go_num, (show _ = _ by rw [seen_succ L lo k o p hk1 hp, HK.out, hsf]; rfl), below_two HB.out (by have := HB.out.size; simpa using this) _ _⟩
        case measure => simp [intOf]; omega
    · obtain rfl : k = hi := by omega
      have hs := HK.out
      have hB0 : Below w.heap.size w wr := ((Below.refl _ w).alloc (Nat.le_refl _) _).trans (hB.mono (Nat.le_succ _))
      have HH : Hid (seen L lo k o = false) := hs
      clear hs
      go_wp2
      go_ret
      exact ⟨ret_bool HH.out.symm, hB0⟩

end Go.Proofs.Qxb6616163a
