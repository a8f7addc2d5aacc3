/-
  Seat b6616163a: (*signingKeyCache).add: the two generations.
-/
import Derived.Test.Qxb6616163aKey
import Derived.Test.Qxb6616163aLeaf
import Derived.Deep.RegionHeld3
import Derived.Deep.DrawnRows
import Derived.BigRegion
namespace Go.Proofs.Qxb6616163a
open Go.RowKit Go.Maps

/-- An element as a datum: the very value. -/
def elemR (v : Value) : Option (DataW Value × List MemPlace) := some (.held v, [])

def keyVal (o : KOp) : Value := .agg #[.slice o.kp o.kn o.kc, .nilIface]

/-- A store of what the cell holds already. -/
theorem setCell_self (w : World) (b off : Nat) (v : Value) (h : w.cell? ⟨b, off, none⟩ = some v) : w.setCell ⟨b, off, none⟩ v = w := by
  cases w with
  | mk heap tape drawn os output =>
    unfold World.setCell
    congr 1
    apply Array.ext_getElem?
    intro i
    rw [Array.getElem?_modify]
    simp only [World.cell?] at h
    split
    · rename_i hi
      subst hi
      cases ho : heap[b]? with
      | none => rfl
      | some ob =>
        rw [ho] at h
        cases ob with
        | cells c elem fr =>
          simp only [Option.isSome_none, Bool.false_eq_true, if_false, Option.map_some] at h ⊢
          have hc : c[off]? = some v := by simpa using h
          have : c.setIfInBounds off v = c := by
            apply Array.ext_getElem?
            intro j
            rw [Array.getElem?_setIfInBounds]
            split
            · rename_i hj
              subst hj
              have := (Array.getElem?_eq_some_iff.1 hc).1
              rw [if_pos this, hc]
            · rfl
          rw [this]
        | _ => rfl
    · rfl

theorem region_call {W wx w1 : World} {Bi : Nat} (hBi : Bi < W.heap.size) (H : Hid (Below W.heap.size W wx)) (hb : Below wx.heap.size wx w1) :
    (∀ j, w1.cell? ⟨Bi, j, none⟩ = wx.cell? ⟨Bi, j, none⟩) ∧ (∀ j, w1.frozen? ⟨Bi, j, none⟩ = wx.frozen? ⟨Bi, j, none⟩) ∧ Hid (Below W.heap.size W w1) := by
  have hlt : Bi < wx.heap.size := Nat.lt_of_lt_of_le hBi H.out.size
  exact ⟨fun j => hb.cell (p := ⟨Bi, j, none⟩) hlt, fun j => hb.frozen (p := ⟨Bi, j, none⟩) hlt, H.out.trans (hb.mono H.out.size)⟩

theorem own_below {w w' : World} {b n B : Nat} {D : DataW Value} (h : w.ownsMap Try.prog 58 elemR b n D) (hb : Below B w w') (hB : b < B) : w'.ownsMap Try.prog 58 elemR b n D := by
  obtain ⟨es, clock, h1, h2⟩ := h
  exact ⟨es, clock, (hb.block b hB).trans h1, h2⟩

theorem cell_alloc2 (w : World) (a : Addr) (A B : Obj) (h : a.block < w.heap.size) : ((w.alloc A).alloc B).cell? a = w.cell? a :=
  ((((Below.refl _ w).alloc (Nat.le_refl _) A).alloc (by simp) B).cell h)
theorem cell_alloc3 (w : World) (a : Addr) (A B C : Obj) (h : a.block < w.heap.size) : (((w.alloc A).alloc B).alloc C).cell? a = w.cell? a :=
  (((((Below.refl _ w).alloc (Nat.le_refl _) A).alloc (by simp) B).alloc (by simp; omega) C).cell h)
theorem cell3_at0 (V : World) (c : Array Value) (t : TypeId) (B C : Obj) (n : Nat) (h : V.heap.size = n) (j : Nat) : (((V.alloc (.cells c t)).alloc B).alloc C).cell? ⟨n, j, none⟩ = c[j]? := by
  subst h
  rw [cell_alloc2 (V.alloc (.cells c t)) _ _ _ (by simp), cell_of_row _ _ _ c t (0, 0) (heap_alloc_new V _)]
theorem frozen3_at0 (V : World) (c : Array Value) (t : TypeId) (B C : Obj) (n : Nat) (h : V.heap.size = n) (j : Nat) : (((V.alloc (.cells c t)).alloc B).alloc C).frozen? ⟨n, j, none⟩ = false := by
  subst h
  rw [((((Below.refl _ (V.alloc (.cells c t))).alloc (Nat.le_refl _) B).alloc (by simp) C).frozen (p := ⟨V.heap.size, j, none⟩) (by simp))]
  have e := heap_alloc_new V (.cells c t)
  unfold World.frozen?
  rw [e]
  simp
theorem cell3_at1 (V : World) (A : Obj) (c : Array Value) (t : TypeId) (C : Obj) (n : Nat) (h : V.heap.size = n) (j : Nat) : (((V.alloc A).alloc (.cells c t)).alloc C).cell? ⟨n + 1, j, none⟩ = c[j]? := by
  subst h
  rw [(((Below.refl _ ((V.alloc A).alloc (.cells c t))).alloc (Nat.le_refl _) C).cell (p := ⟨V.heap.size + 1, j, none⟩) (by simp))]
  have e := heap_alloc_new (V.alloc A) (.cells c t)
  rw [cell_of_row _ _ _ c t (0, 0) (by simpa using e)]
theorem cell_setCell_some (w : World) (a : Addr) (u v : Value) (h : w.cell? a = some v) : (w.setCell a u).cell? a = some u := World.cell?_setCell_same _ _ _ h
theorem own_made3 (V : World) (A B : Obj) (n : Nat) (h : V.heap.size + 1 + 1 = n) : (((V.alloc A).alloc B).alloc (.map #[] 0)).ownsMap Try.prog 58 elemR n 0 (.map []) := by
  subst h
  have := World.ownsMap_made ((V.alloc A).alloc B) Try.prog 58 elemR
  simpa using this

attribute [local go_sem ↓] Go.wp_at_zero Go.wp_at_succ

set_option maxHeartbeats 2000000 in
set_option maxRecDepth 100000 in
theorem add_B (Bc : Nat) (o : KOp) (w : World) (hid : IdOk o) (hBc : Bc < w.heap.size) (b : Nat) (DR : DataW Value) (hsz : Maps.size DR < 512) (c2 : w.cell? ⟨Bc, 2, none⟩ = some (.map (some b))) (hbb : b < w.heap.size) (hown : w.ownsMap Try.prog 58 elemR b (Maps.size DR) DR)
    (hl : ∀ s ∈ [o.d, o.e, o.f], s.size ≤ 281474976710656) :
    Calls Try.prog 25 #[.pointer (some ⟨Bc, 0, none⟩), .agg #[.string o.a, .string o.b, .string o.c, .string o.d, .string o.e, .string o.f], .agg #[.slice o.kp o.kn o.kc, .nilIface]] w
      fun e w' => e = .returned (.tuple #[]) ∧ ∃ W6, Below ((w.alloc (Obj.cells #[Value.string o.a, Value.string o.b, Value.string o.c, Value.string o.d, Value.string o.e, Value.string o.f] 58)).alloc (Obj.cells #[Value.slice o.kp o.kn o.kc, Value.nilIface] 62)).heap.size ((w.alloc (Obj.cells #[Value.string o.a, Value.string o.b, Value.string o.c, Value.string o.d, Value.string o.e, Value.string o.f] 58)).alloc (Obj.cells #[Value.slice o.kp o.kn o.kc, Value.nilIface] 62)) W6 ∧ W6.drew.mapTurned w' b ∧ w'.ownsMap Try.prog 58 elemR b ((Maps.size DR) + 1) (DataW.put DR (kl o) (.held (keyVal o))) := by
  have hnil := fun (wx : World) (r : Option Nat) => run_eql_map_nil (P := Try.prog) wx 50 58 62 r Try.underlying50
  have hsz' : (Maps.size DR : Int) < 512 := by omega
  clear hsz
  have HO : Hid (w.ownsMap Try.prog 58 elemR b (Maps.size DR) DR) := hown
  clear hown
  go_enter Try.func25, Try.ntmps25
  go_wp2_with (at_len; refine wpList_len_own _ rfl _ 50 rfl 58 62 Try.underlying50 elemR b (Maps.size DR) DR rfl ((HO.out.alloc _).alloc _) ?_)
  generalize hW : (w.alloc (Obj.cells #[Value.string o.a, Value.string o.b, Value.string o.c, Value.string o.d, Value.string o.e, Value.string o.f] 58)).alloc (Obj.cells #[Value.slice o.kp o.kn o.kc, Value.nilIface] 62) = W
  have hBi : w.heap.size < W.heap.size := by rw [← hW]; simp; omega
  have hz6 : w.heap.size + 1 < W.heap.size := by rw [← hW]; simp
  have d3 : W.cell? ⟨w.heap.size, 3, none⟩ = some (.string o.d) := by rw [← hW]; simp
  have d4 : W.cell? ⟨w.heap.size, 4, none⟩ = some (.string o.e) := by rw [← hW]; simp
  have d5 : W.cell? ⟨w.heap.size, 5, none⟩ = some (.string o.f) := by rw [← hW]; simp
  have F3 : W.frozen? ⟨w.heap.size, 3, none⟩ = false := by rw [← hW]; simp
  have F4 : W.frozen? ⟨w.heap.size, 4, none⟩ = false := by rw [← hW]; simp
  have F5 : W.frozen? ⟨w.heap.size, 5, none⟩ = false := by rw [← hW]; simp
  have D0 : Hid (W.cell? ⟨w.heap.size, 0, none⟩ = some (.string o.a)) := show _ = _ by rw [← hW]; simp
  have D1 : Hid (W.cell? ⟨w.heap.size, 1, none⟩ = some (.string o.b)) := show _ = _ by rw [← hW]; simp
  have D2 : Hid (W.cell? ⟨w.heap.size, 2, none⟩ = some (.string o.c)) := show _ = _ by rw [← hW]; simp
  have E0 : Hid (W.cell? ⟨w.heap.size + 1, 0, none⟩ = some (.slice o.kp o.kn o.kc)) := show _ = _ by rw [← hW]; simp
  have E1 : Hid (W.cell? ⟨w.heap.size + 1, 1, none⟩ = some .nilIface) := show _ = _ by rw [← hW]; simp
  have G2 : Hid (W.cell? ⟨Bc, 2, none⟩ = some (.map (some b))) := show _ = _ by rw [← hW]; rw [cell_alloc2 _ _ _ _ hBc]; exact c2
  have HOW : Hid (W.ownsMap Try.prog 58 elemR b (Maps.size DR) DR) := show World.ownsMap _ _ _ _ _ _ _ by rw [← hW]; exact (HO.out.alloc _).alloc _
  have hbm : b < W.heap.size := by rw [← hW]; simp; omega
  have hBcW : Bc < W.heap.size := by rw [← hW]; simp; omega
  have ld := hl o.d (by simp)
  have le := hl o.e (by simp)
  have lf := hl o.f (by simp)
  clear hl
  go_region_held3 (fun w' => w'.cell? ⟨w.heap.size, 3, none⟩ = some (.string o.d) ∧ w'.cell? ⟨w.heap.size, 4, none⟩ = some (.string o.e) ∧ w'.cell? ⟨w.heap.size, 5, none⟩ = some (.string o.f) ∧
      w'.frozen? ⟨w.heap.size, 3, none⟩ = false ∧ w'.frozen? ⟨w.heap.size, 4, none⟩ = false ∧ w'.frozen? ⟨w.heap.size, 5, none⟩ = false ∧ Hid (Below W.heap.size W w'))
    (first
      | exact ⟨by simpa using d3, by simpa using d4, by simpa using d5, by simpa using F3, by simpa using F4, by simpa using F5, (Below.refl _ W).drew⟩
      | (go_split_ands
         rw [setCell_self _ _ _ _ (by assumption)]
         exact ⟨by assumption, by assumption, by assumption, by assumption, by assumption, by assumption, by assumption⟩)
      | (go_split_ands
         obtain ⟨k1, k2, k3⟩ := region_call hBi (by assumption) hbx
         exact ⟨by rw [k1]; assumption, by rw [k1]; assumption, by rw [k1]; assumption, by rw [k2]; assumption, by rw [k2]; assumption, by rw [k2]; assumption, k3⟩))
    ((go_at_call 26; refine (clone_any _ _ (by assumption)).mono ?_; rintro e w1 ⟨rfl, hbx⟩))
  rename_i hH
  obtain ⟨-, -, -, -, -, -, HB6⟩ := hH
  generalize ((w1.setCell ⟨w.heap.size, 3, none⟩ (Value.string o.d)).setCell ⟨w.heap.size, 4, none⟩ (Value.string o.e)).setCell ⟨w.heap.size, 5, none⟩ (Value.string o.f) = W6 at HB6 ⊢
  have hb6 := HB6.out
  have g2 : W6.cell? ⟨Bc, 2, none⟩ = some (.map (some b)) := by rw [hb6.cell (p := ⟨Bc, 2, none⟩) hBcW]; exact G2.out
  have i0 : W6.cell? ⟨w.heap.size, 0, none⟩ = some (.string o.a) := by rw [hb6.cell (p := ⟨w.heap.size, 0, none⟩) hBi]; exact D0.out
  have i1 : W6.cell? ⟨w.heap.size, 1, none⟩ = some (.string o.b) := by rw [hb6.cell (p := ⟨w.heap.size, 1, none⟩) hBi]; exact D1.out
  have i2 : W6.cell? ⟨w.heap.size, 2, none⟩ = some (.string o.c) := by rw [hb6.cell (p := ⟨w.heap.size, 2, none⟩) hBi]; exact D2.out
  have i3 : W6.cell? ⟨w.heap.size, 3, none⟩ = some (.string o.d) := by rw [hb6.cell (p := ⟨w.heap.size, 3, none⟩) hBi]; exact d3
  have i4 : W6.cell? ⟨w.heap.size, 4, none⟩ = some (.string o.e) := by rw [hb6.cell (p := ⟨w.heap.size, 4, none⟩) hBi]; exact d4
  have i5 : W6.cell? ⟨w.heap.size, 5, none⟩ = some (.string o.f) := by rw [hb6.cell (p := ⟨w.heap.size, 5, none⟩) hBi]; exact d5
  have j0 : W6.cell? ⟨w.heap.size + 1, 0, none⟩ = some (.slice o.kp o.kn o.kc) := by rw [hb6.cell (p := ⟨w.heap.size + 1, 0, none⟩) hz6]; exact E0.out
  have j1 : W6.cell? ⟨w.heap.size + 1, 1, none⟩ = some .nilIface := by rw [hb6.cell (p := ⟨w.heap.size + 1, 1, none⟩) hz6]; exact E1.out
  have hown6 : W6.drew.ownsMap Try.prog 58 elemR b (Maps.size DR) DR := own_below HOW.out hb6.drew hbm
  obtain ⟨w2, hrun, hown2, hturn⟩ := hown6.store law Try.underlying50 (by unfold maxLen; omega) (keyOf_op o hid) (show elemR (keyVal o) = some (.held (keyVal o), []) from rfl)
  unfold idVal keyVal at hrun
  have HO2 : Hid (w2.ownsMap Try.prog 58 elemR b ((Maps.size DR) + 1) (DataW.put DR (kl o) (.held (keyVal o)))) := hown2
  have HT : Hid (W6.drew.mapTurned w2 b) := hturn
  have HWE : Hid ((w.alloc (Obj.cells #[Value.string o.a, Value.string o.b, Value.string o.c, Value.string o.d, Value.string o.e, Value.string o.f] 58)).alloc (Obj.cells #[Value.slice o.kp o.kn o.kc, Value.nilIface] 62) = W) := hW
  clear hown2 hturn hown6 hW hb6 d3 d4 d5 F3 F4 F5 hbx
  go_wp2
  go_region
  go_end0
  exact ⟨rfl, W6, by rw [HWE.out]; exact HB6.out, HT.out, HO2.out⟩

end Go.Proofs.Qxb6616163a
