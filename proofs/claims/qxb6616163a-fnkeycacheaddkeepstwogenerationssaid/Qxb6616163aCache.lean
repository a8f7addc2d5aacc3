/-
  Seat b6616163a: the cache as two maps: what each of its operations makes of them.
-/
import Derived.Test.Qxb6616163aAdd2
namespace Go.Proofs.Qxb6616163a
open Go.RowKit Go.Maps

/-- A map value that reads as D: nil reads as the empty map. -/
def MapIs (B : Nat) (w : World) : Option Nat → DataW Value → Prop
  | none, D => D = .map []
  | some b, D => B ≤ b ∧ w.ownsMap Try.prog 58 elemR b (Maps.size D) D

/-- The cache in block Bc: its recent map reads as DR, its older one as DO; all of it lies from block B on. -/
def CacheAt (B : Nat) (w : World) (Bc : Nat) (DR DO : DataW Value) : Prop :=
  ∃ mr mo : Option Nat, B ≤ Bc ∧ w.heap[Bc]? = some (.cells #[.int .i32 0, .int .u32 0, .map mr, .map mo] 52 (0, 0)) ∧ MapIs B w mr DR ∧ MapIs B w mo DO ∧ (mr = none ∨ mr ≠ mo)

def addD (D : DataW Value × DataW Value) (k : Lit) (v : Value) : DataW Value × DataW Value :=
  if 512 ≤ Maps.size D.1 then ((DataW.map []).put k (.held v), D.1) else (D.1.put k (.held v), D.2)

theorem own_size {w : World} {b n : Nat} {D : DataW Value} (h : w.ownsMap Try.prog 58 elemR b n D) : w.ownsMap Try.prog 58 elemR b (Maps.size D) D := by
  obtain ⟨es, clock, h1, h2, h3, h4⟩ := h
  refine ⟨es, clock, h1, h2, ?_, h4⟩
  rw [h4, Maps.size_eq, length_sorted]
  simp

theorem own_lt {w : World} {b n : Nat} {D : DataW Value} (h : w.ownsMap Try.prog 58 elemR b n D) : b < w.heap.size := h.lt
theorem own_ne {w : World} {b n Bc : Nat} {D : DataW Value} {c : Array Value} {t : TypeId} {fr : Nat × Nat} (h : w.ownsMap Try.prog 58 elemR b n D) (hc : w.heap[Bc]? = some (.cells c t fr)) : Bc ≠ b := by
  rintro rfl
  obtain ⟨es, clock, h1, _⟩ := h
  rw [h1] at hc
  cases hc

theorem MapIs.same {B : Nat} {w w' : World} {m : Option Nat} {D : DataW Value} (h : MapIs B w m D) (hs : ∀ b, m = some b → w'.heap[b]? = w.heap[b]?) : MapIs B w' m D := by
  cases m with
  | none => exact h
  | some b =>
    obtain ⟨h1, es, clock, h2, h3⟩ := h
    exact ⟨h1, es, clock, (hs b rfl).trans h2, h3⟩
theorem MapIs.lt {B : Nat} {w : World} {b : Nat} {D : DataW Value} (h : MapIs B w (some b) D) : b < w.heap.size := h.2.lt

theorem cache_after {B Bc bm n : Nat} {w W W6 w' : World} {mo : Option Nat} {DR DO : DataW Value} (hBW : Below B w W) (hW6 : Below W.heap.size W W6) (ht : W6.drew.mapTurned w' bm) (hown : w'.ownsMap Try.prog 58 elemR bm n DR)
    (hBbm : B ≤ bm) (hB : B ≤ Bc) (hcell : W.heap[Bc]? = some (.cells #[.int .i32 0, .int .u32 0, .map (some bm), .map mo] 52 (0, 0))) (hmap : ∃ n D, W.ownsMap Try.prog 58 elemR bm n D) (hmo : MapIs B W mo DO) (hne : some bm ≠ mo) :
    CacheAt B w' Bc DR DO ∧ Below B w w' := by
  have hg := ht.grown
  have hBcl : Bc < W.heap.size := (Array.getElem?_eq_some_iff.1 hcell).1
  have hblk : ∀ k, k < W.heap.size → k ≠ bm → w'.heap[k]? = W.heap[k]? := fun k hk hkb => by
    have h1 := hg.block k (by show k < W6.heap.size; exact Nat.lt_of_lt_of_le hk hW6.size) (fun e => hkb (by injection e))
    rw [h1]
    exact hW6.block k hk
  obtain ⟨n0, D0, hm0⟩ := hmap
  have hne0 : Bc ≠ bm := own_ne hm0 hcell
  refine ⟨⟨some bm, mo, hB, by rw [hblk Bc hBcl hne0]; exact hcell, ⟨hBbm, own_size hown⟩, hmo.same (fun b hb => ?_), .inr hne⟩, ?_⟩
  · subst hb
    exact hblk b hmo.lt (fun e => hne (by rw [e]))
  · refine hBW.trans ⟨?_, ?_, ?_, ?_, fun k hk => hblk k (by omega) (by omega)⟩
    · rw [hg.os]; exact hW6.os
    · rw [hg.tape]; exact hW6.tape
    · rw [hg.output]; exact hW6.output
    · exact Nat.le_trans hW6.size hg.size

theorem heap_setCell_at (w : World) (b i : Nat) (v : Value) (c : Array Value) (t : TypeId) (fr : Nat × Nat) (h : w.heap[b]? = some (.cells c t fr)) : (w.setCell ⟨b, i, none⟩ v).heap[b]? = some (.cells (c.setIfInBounds i v) t fr) := by
  unfold World.setCell
  show (w.heap.modify b _)[b]? = _
  rw [Array.getElem?_modify, if_pos rfl, h]
  simp
theorem frozen_of_row (w : World) (b i : Nat) (c : Array Value) (t : TypeId) (h : w.heap[b]? = some (.cells c t (0, 0))) : w.frozen? ⟨b, i, none⟩ = false := by
  unfold World.frozen?
  rw [h]
  simp

theorem heap_alloc3 (V : World) (A B C : Obj) (k : Nat) (h : k < V.heap.size) : (((V.alloc A).alloc B).alloc C).heap[k]? = V.heap[k]? :=
  ((((Below.refl _ V).alloc (Nat.le_refl _) A).alloc (by simp) B).alloc (by simp; omega) C).block k h

set_option maxHeartbeats 2000000 in
theorem add_any (B Bc : Nat) (DR DO : DataW Value) (o : KOp) (w : World) (hid : IdOk o) (hl : ∀ s ∈ [o.d, o.e, o.f], s.size ≤ 281474976710656) (h : CacheAt B w Bc DR DO) :
    Calls Try.prog 25 #[.pointer (some ⟨Bc, 0, none⟩), .agg #[.string o.a, .string o.b, .string o.c, .string o.d, .string o.e, .string o.f], .agg #[.slice o.kp o.kn o.kc, .nilIface]] w
      fun e w' => e = .returned (.tuple #[]) ∧ CacheAt B w' Bc (addD (DR, DO) (kl o) (keyVal o)).1 (addD (DR, DO) (kl o) (keyVal o)).2 ∧ Below B w w' := by
  obtain ⟨mr, mo, hB, hc, hmr, hmo, hne⟩ := h
  have hBc : Bc < w.heap.size := (Array.getElem?_eq_some_iff.1 hc).1
  have c2 : w.cell? ⟨Bc, 2, none⟩ = some (.map mr) := by rw [cell_of_row _ _ _ _ _ _ hc]; rfl
  have c3 : w.cell? ⟨Bc, 3, none⟩ = some (.map mo) := by rw [cell_of_row _ _ _ _ _ _ hc]; rfl
  have f2 := frozen_of_row w Bc 2 _ _ hc
  have f3 := frozen_of_row w Bc 3 _ _ hc
  cases mr with
  | none =>
    have hD : DR = .map [] := hmr
    subst hD
    refine (add_A Bc o w hid hBc c2 f2 hl).mono ?_
    rintro e w' ⟨rfl, W6, hW6, ht, hown⟩
    refine ⟨rfl, ?_⟩
    have e1 : addD ((DataW.map [] : DataW Value), DO) (kl o) (keyVal o) = ((DataW.map []).put (kl o) (.held (keyVal o)), DO) := by
      unfold addD; rw [if_neg (by show ¬ 512 ≤ 0; omega)]
    rw [e1]
    have hBW : Below B w ((((w.setCell ⟨Bc, 2, none⟩ (Value.map (some (w.heap.size + 1 + 1)))).alloc (Obj.cells #[Value.string o.a, Value.string o.b, Value.string o.c, Value.string o.d, Value.string o.e, Value.string o.f] 58)).alloc (Obj.cells #[Value.slice o.kp o.kn o.kc, Value.nilIface] 62)).alloc (Obj.map #[] 0)) :=
      ((((Below.refl B w).setCell (p := ⟨Bc, 2, none⟩) hB _).alloc (by simp; omega) _).alloc (by simp; omega) _).alloc (by simp; omega) _
    refine cache_after (mo := mo) hBW hW6 ht hown (by omega) hB ?_ ⟨0, _, own_made3 _ _ _ _ (by simp)⟩ (hmo.same (fun b hb => ?_)) (fun e => ?_)
    · rw [heap_alloc3 _ _ _ _ _ (by simp; omega), heap_setCell_at _ _ _ _ _ _ _ hc]
      rfl
    · subst hb
      rw [heap_alloc3 _ _ _ _ _ (by have := hmo.lt; simp; omega)]
      exact Below.heap_setCell w _ _ b (Ne.symm (own_ne hmo.2 hc))
    · subst e
      have := hmo.lt
      omega
  | some b =>
    have hbb : b < w.heap.size := hmr.lt
    by_cases hsz : 512 ≤ Maps.size DR
    · refine (add_C Bc o w hid hBc b mo DR hsz c2 f2 c3 f3 hmr.2 hl).mono ?_
      rintro e w' ⟨rfl, W6, hW6, ht, hown⟩
      refine ⟨rfl, ?_⟩
      have e1 : addD (DR, DO) (kl o) (keyVal o) = ((DataW.map []).put (kl o) (.held (keyVal o)), DR) := by
        unfold addD; rw [if_pos hsz]
      rw [e1]
      have hBW : Below B w ((((((w.setCell ⟨Bc, 3, none⟩ (Value.map (some b))).setCell ⟨Bc, 2, none⟩ (Value.map Option.none)).setCell ⟨Bc, 2, none⟩ (Value.map (some (w.heap.size + 1 + 1)))).alloc (Obj.cells #[Value.string o.a, Value.string o.b, Value.string o.c, Value.string o.d, Value.string o.e, Value.string o.f] 58)).alloc (Obj.cells #[Value.slice o.kp o.kn o.kc, Value.nilIface] 62)).alloc (Obj.map #[] 0)) :=
        ((((((Below.refl B w).setCell (p := ⟨Bc, 3, none⟩) hB _).setCell (p := ⟨Bc, 2, none⟩) hB _).setCell (p := ⟨Bc, 2, none⟩) hB _).alloc (by simp; omega) _).alloc (by simp; omega) _).alloc (by simp; omega) _
      refine cache_after (mo := some b) hBW hW6 ht hown (by omega) hB ?_ ⟨0, _, own_made3 _ _ _ _ (by simp)⟩ (hmr.same (fun b' hb => ?_)) (fun e => ?_)
      · have s1 := heap_setCell_at w Bc 3 (Value.map (some b)) _ _ _ hc
        have s2 := heap_setCell_at _ Bc 2 (Value.map Option.none) _ _ _ s1
        have s3 := heap_setCell_at _ Bc 2 (Value.map (some (w.heap.size + 1 + 1))) _ _ _ s2
        exact (heap_alloc3 _ _ _ _ Bc (by simp; omega)).trans s3
      · injection hb with hb
        subst hb
        have hn := Ne.symm (own_ne hmr.2 hc)
        rw [heap_alloc3 _ _ _ _ _ (by simp; omega), Below.heap_setCell _ _ _ b hn, Below.heap_setCell _ _ _ b hn, Below.heap_setCell _ _ _ b hn]
      · injection e with e
        omega
    · refine (add_B Bc o w hid hBc b DR (by omega) c2 hbb hmr.2 hl).mono ?_
      rintro e w' ⟨rfl, W6, hW6, ht, hown⟩
      refine ⟨rfl, ?_⟩
      have e1 : addD (DR, DO) (kl o) (keyVal o) = (DR.put (kl o) (.held (keyVal o)), DO) := by
        unfold addD; rw [if_neg hsz]
      rw [e1]
      have hBW : Below w.heap.size w ((w.alloc (Obj.cells #[Value.string o.a, Value.string o.b, Value.string o.c, Value.string o.d, Value.string o.e, Value.string o.f] 58)).alloc (Obj.cells #[Value.slice o.kp o.kn o.kc, Value.nilIface] 62)) := ((Below.refl _ w).alloc (Nat.le_refl _) _).alloc (by simp) _
      refine cache_after (mo := mo) (hBW.mono (by omega)) hW6 ht hown hmr.1 hB ?_ ⟨_, _, (hmr.2.alloc _).alloc _⟩ (hmo.same (fun b' hb => ?_)) (fun e => ?_)
      · rw [hBW.block Bc hBc]; exact hc
      · subst hb
        exact hBW.block b' hmo.lt
      · rcases hne with h | h
        · cases h
        · exact h e

end Go.Proofs.Qxb6616163a
