/-
  Seat b6616163a: zzBytes of FnKeyCacheKeepsKeyThrough512Adds: two loops and the tests on x between them.
-/
import Derived.Test.Qxb6616163aSize
namespace Go.Proofs.Qxb6616163a
open Go.RowKit

set_option maxHeartbeats 8000000 in
set_option maxRecDepth 100000 in
theorem zzB_any (p1 p2 : Option Addr) (n1 n2 c1 c2 : Nat) (L1 L2 : List KOp) (x : KOp) (w : World) (hn1 : n1 ≤ maxLen) (hn2 : n2 ≤ maxLen) (h1 : SliceOps w p1 n1 L1) (h2 : SliceOps w p2 n2 L2) :
    Calls Try.prog 17 #[.slice p1 n1 c1, .agg #[.string x.a, .string x.b, .string x.c, .string x.d, .string x.e, .string x.f, .slice x.kp x.kn x.kc], .slice p2 n2 c2] w fun e w' => IsBool e ∧ Below w.heap.size w w' := by
  unfold maxLen at hn1 hn2
  have HS1 : Hid (SliceOps w p1 n1 L1) := h1
  have HS2 : Hid (SliceOps w p2 n2 L2) := h2
  clear h1 h2
  by_cases hbig : 1048576 < n1
  · go_enter Try.func17, Try.ntmps17
    go_wp2
    go_ret
    exact ⟨⟨_, rfl⟩, (Below.refl _ _).alloc (Nat.le_refl _) _⟩
  · go_enter Try.func17, Try.ntmps17
    go_wp2
    go_loop [7, 8] (fun z i => ∃ (k : Nat) (s : Int), k ≤ n1 ∧ i = .int .i64 k ∧ z = .int .i64 s ∧ 0 ≤ s ∧ s ≤ 1048576) (fun _ i => n1 - (intOf i).toNat)
    case atStart => exact ⟨0, _, Nat.zero_le _, rfl, rfl, by omega, by omega⟩
    case round =>
      obtain ⟨k, s, hk, rfl, rfl, hs0, hs1⟩ := hrel
      by_cases hlt : k < n1
      · obtain ⟨p, hp⟩ : ∃ p, L1[k]? = some p := ⟨L1[k]'(by rw [HS1.out.1]; exact hlt), List.getElem?_eq_getElem _⟩
        obtain ⟨b, off, hpe, ho⟩ := HS1.out.2.resolve_left (by omega)
        subst hpe
        obtain ⟨c0, c1, c2, c3, c4, c5, c6⟩ := (ho k p hp).below ((Below.refl _ _).alloc (Nat.le_refl _) (.cells #[.string x.a, .string x.b, .string x.c, .string x.d, .string x.e, .string x.f, .slice x.kp x.kn x.kc] 29)) (ho k p hp).lt
        clear ho
        have hk0 : (0 : Int) ≤ (k : Int) := by omega
        have hkn : (k : Int) < (n1 : Int) := by omega
        go_wp2
        all_goals first
          | (go_ret; exact ⟨⟨_, rfl⟩, (Below.refl _ _).alloc (Nat.le_refl _) _⟩)
          | (go_round
             case rel => exact ⟨k + 1, _, by omega, by go_num, rfl, by omega, by omega⟩
             case measure => simp [intOf]; omega)
      · go_wp2
        all_goals try (go_ret; exact ⟨⟨_, rfl⟩, (Below.refl _ _).alloc (Nat.le_refl _) _⟩)
        go_loop [7, 9] (fun z i => ∃ (k : Nat) (s : Int), k ≤ n2 ∧ i = .int .i64 k ∧ z = .int .i64 s ∧ 0 ≤ s ∧ s ≤ 1048576) (fun _ i => n2 - (intOf i).toNat)
        case atStart => exact ⟨0, _, Nat.zero_le _, rfl, rfl, by omega, by omega⟩
        case round =>
          clear hs0 hs1 hk hlt
          obtain ⟨k, s, hk, rfl, rfl, hs0, hs1⟩ := hrel
          by_cases hlt : k < n2
          · obtain ⟨p, hp⟩ : ∃ p, L2[k]? = some p := ⟨L2[k]'(by rw [HS2.out.1]; exact hlt), List.getElem?_eq_getElem _⟩
            obtain ⟨b, off, hpe, ho⟩ := HS2.out.2.resolve_left (by omega)
            subst hpe
            obtain ⟨c0, c1, c2, c3, c4, c5, c6⟩ := (ho k p hp).below ((Below.refl _ _).alloc (Nat.le_refl _) (.cells #[.string x.a, .string x.b, .string x.c, .string x.d, .string x.e, .string x.f, .slice x.kp x.kn x.kc] 29)) (ho k p hp).lt
            clear ho
            have hk0 : (0 : Int) ≤ (k : Int) := by omega
            have hkn : (k : Int) < (n2 : Int) := by omega
            go_wp2
            all_goals first
              | (go_ret; exact ⟨⟨_, rfl⟩, (Below.refl _ _).alloc (Nat.le_refl _) _⟩)
              | (go_round
                 case rel => exact ⟨k + 1, _, by omega, by go_num, rfl, by omega, by omega⟩
                 case measure => simp [intOf]; omega)
          · go_wp2
            go_ret
            exact ⟨⟨_, rfl⟩, (Below.refl _ _).alloc (Nat.le_refl _) _⟩

end Go.Proofs.Qxb6616163a
