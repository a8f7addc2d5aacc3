/-
  Seat b6616163a: the bounds on size: keyOpsBytes; zzBytes of the two laws. Of what they answer only the range is needed.
-/
import Derived.Test.Qxb6616163aScan
namespace Go.Proofs.Qxb6616163a
open Go.RowKit

theorem keyOpsBytes_zero (t : Int) (p : Option Addr) (c : Nat) (w : World) (h0 : 0 ≤ t) (h1 : t ≤ 2097152) :
    Calls Try.prog 6 #[.int .i64 t, .slice p 0 c] w fun e w' => (∃ r : Int, e = .returned (.int .i64 r) ∧ 0 ≤ r ∧ r ≤ 2097152) ∧ Below w.heap.size w w' := by
  go_enter Try.func6, Try.ntmps6
  go_wp2
  refine wp_loop_rounds 1 ?_
  rw [rounds_succ]
  go_wp2
  go_ret
  exact ⟨⟨_, rfl, h0, h1⟩, Below.refl _ _⟩

set_option maxHeartbeats 1000000 in
theorem keyOpsBytes_some (t : Int) (b off n c : Nat) (L : List KOp) (w : World) (h0 : 0 ≤ t) (h1 : t ≤ 2097152) (hL : L.length = n) (hn : n ≤ maxLen) (h : OpsAt w b off L) (hbw : b < w.heap.size) :
    Calls Try.prog 6 #[.int .i64 t, .slice (some ⟨b, off, none⟩) n c] w fun e w' => (∃ r : Int, e = .returned (.int .i64 r) ∧ 0 ≤ r ∧ r ≤ 2097152) ∧ Below w.heap.size w w' := by
  unfold maxLen at hn
  have HS : Hid (OpsAt w b off L) := h
  clear h
  go_enter Try.func6, Try.ntmps6
  go_wp2
  go_loopw [0, 8] (fun t' i wr => ∃ (k : Nat) (s : Int), k ≤ n ∧ i = .int .i64 k ∧ t' = .int .i64 s ∧ 0 ≤ s ∧ s ≤ 2097152 ∧ Below w.heap.size w wr) (fun _ i _ => n - (intOf i).toNat)
  case atStart => exact ⟨0, t, Nat.zero_le _, rfl, rfl, h0, h1, Below.refl _ _⟩
  case round =>
    obtain ⟨k, s, hk, rfl, rfl, hs0, hs1, hB⟩ := hrel
    by_cases hlt : k < n
    · obtain ⟨p, hp⟩ : ∃ p, L[k]? = some p := ⟨L[k], List.getElem?_eq_getElem (by omega)⟩
      have HB : Hid (Below w.heap.size w wr) := hB
      obtain ⟨c0, c1, c2, c3, c4, c5, c6⟩ := (HS.out k p hp).below hB hbw
      have hk0 : (0 : Int) ≤ (k : Int) := by omega
      have hkn : (k : Int) < (n : Int) := by omega
      clear hB
      go_wp2_with fail
      refine (keyOpBytes_any s p wr hs0 hs1).mono ?_
      rintro e w1 ⟨⟨r, rfl, hr0, hr1⟩, hw1⟩
      subst hw1
      clear c0 c1 c2 c3 c4 c5 c6
      go_wp2
      · go_ret
        exact ⟨⟨_, rfl, hr0, hr1⟩, HB.out.alloc HB.out.size _⟩
      · go_roundw
        case rel => exact ⟨k + 1, r, by omega, by go_num, rfl, hr0, hr1, HB.out.alloc HB.out.size _⟩
        case measure => simp [intOf]; omega
    · have HB : Hid (Below w.heap.size w wr) := hB
      clear hB
      go_wp2
      go_ret
      exact ⟨⟨_, rfl, hs0, hs1⟩, HB.out⟩

/-- It answers a bool. -/
def IsBool (e : Ending) : Prop := ∃ r : Bool, e = .returned (.bool r)

theorem zzA_zero (p : Option Addr) (c : Nat) (w : World) :
    Calls Try.prog 5 #[.slice p 0 c] w fun e w' => IsBool e ∧ w' = w := by
  go_enter Try.func5, Try.ntmps5
  go_wp2
  refine wp_loop_rounds 1 ?_
  rw [rounds_succ]
  go_wp2
  go_ret
  exact ⟨⟨_, rfl⟩, rfl⟩

set_option maxHeartbeats 4000000 in
set_option maxRecDepth 100000 in
theorem zzA_some (b off n c : Nat) (L : List KOp) (w : World) (hL : L.length = n) (hn : n ≤ maxLen) (h : OpsAt w b off L) :
    Calls Try.prog 5 #[.slice (some ⟨b, off, none⟩) n c] w fun e w' => IsBool e ∧ w' = w := by
  unfold maxLen at hn
  have HS : Hid (OpsAt w b off L) := h
  clear h
  by_cases hbig : 1048576 < n
  · go_enter Try.func5, Try.ntmps5
    go_wp2
    go_ret
    exact ⟨⟨_, rfl⟩, rfl⟩
  · go_enter Try.func5, Try.ntmps5
    go_wp2
    go_loop [3, 4] (fun z i => ∃ (k : Nat) (s : Int), k ≤ n ∧ i = .int .i64 k ∧ z = .int .i64 s ∧ 0 ≤ s ∧ s ≤ 1048576) (fun _ i => n - (intOf i).toNat)
    case atStart => exact ⟨0, _, Nat.zero_le _, rfl, rfl, by omega, by omega⟩
    case round =>
      obtain ⟨k, s, hk, rfl, rfl, hs0, hs1⟩ := hrel
      by_cases hlt : k < n
      · obtain ⟨p, hp⟩ : ∃ p, L[k]? = some p := ⟨L[k], List.getElem?_eq_getElem (by omega)⟩
        obtain ⟨c0, c1, c2, c3, c4, c5, c6⟩ := HS.out k p hp
        have hk0 : (0 : Int) ≤ (k : Int) := by omega
        have hkn : (k : Int) < (n : Int) := by omega
        go_wp2
        all_goals first
          | (go_ret; exact ⟨⟨_, rfl⟩, rfl⟩)
          | (go_round
             case rel => exact ⟨k + 1, _, by omega, by go_num, rfl, by omega, by omega⟩
             case measure => simp [intOf]; omega)
      · go_wp2
        go_ret
        exact ⟨⟨_, rfl⟩, rfl⟩

/-- A slice value of KeyOps that reads as L. -/
def SliceOps (w : World) (p : Option Addr) (n : Nat) (L : List KOp) : Prop := L.length = n ∧ (n = 0 ∨ ∃ b off, p = some ⟨b, off, none⟩ ∧ OpsAt w b off L)

theorem OpsAt.lt {w : World} {b off : Nat} {L : List KOp} (h : OpsAt w b off L) (h0 : 0 < L.length) : b < w.heap.size := (h 0 L[0] (List.getElem?_eq_getElem h0)).lt
theorem SliceOps.below {w w' : World} {p : Option Addr} {n : Nat} {L : List KOp} (h : SliceOps w p n L) (hb : Below w.heap.size w w') : SliceOps w' p n L := by
  obtain ⟨hL, h⟩ := h
  refine ⟨hL, ?_⟩
  by_cases h0 : n = 0
  · exact .inl h0
  · obtain ⟨b, off, rfl, ho⟩ := h.resolve_left h0
    exact .inr ⟨b, off, rfl, ho.below hb (ho.lt (by omega))⟩

theorem keyOpsBytes_any (t : Int) (p : Option Addr) (n c : Nat) (L : List KOp) (w : World) (h0 : 0 ≤ t) (h1 : t ≤ 2097152) (hn : n ≤ maxLen) (h : SliceOps w p n L) :
    Calls Try.prog 6 #[.int .i64 t, .slice p n c] w fun e w' => (∃ r : Int, e = .returned (.int .i64 r) ∧ 0 ≤ r ∧ r ≤ 2097152) ∧ Below w.heap.size w w' := by
  obtain ⟨hL, h⟩ := h
  by_cases hz : n = 0
  · subst hz; exact keyOpsBytes_zero t p c w h0 h1
  · obtain ⟨b, off, rfl, ho⟩ := h.resolve_left hz
    exact keyOpsBytes_some t b off n c L w h0 h1 hL hn ho (ho.lt (by omega))

theorem zzA_any (p : Option Addr) (n c : Nat) (L : List KOp) (w : World) (hn : n ≤ maxLen) (h : SliceOps w p n L) :
    Calls Try.prog 5 #[.slice p n c] w fun e w' => IsBool e ∧ w' = w := by
  obtain ⟨hL, h⟩ := h
  by_cases hz : n = 0
  · subst hz; exact zzA_zero p c w
  · obtain ⟨b, off, rfl, ho⟩ := h.resolve_left hz
    exact zzA_some b off n c L w hL hn ho

end Go.Proofs.Qxb6616163a
