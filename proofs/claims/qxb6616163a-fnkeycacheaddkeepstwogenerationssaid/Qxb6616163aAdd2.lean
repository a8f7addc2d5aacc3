/-
  Seat b6616163a: (*signingKeyCache).add where a new map is made: the recent one is nil, or is full.
-/
import Derived.Test.Qxb6616163aAdd
namespace Go.Proofs.Qxb6616163a
open Go.RowKit Go.Maps
attribute [local go_sem ↓] Go.wp_at_zero Go.wp_at_succ

set_option maxHeartbeats 2000000 in
set_option maxRecDepth 100000 in
theorem add_A (Bc : Nat) (o : KOp) (w : World) (hid : IdOk o) (hBc : Bc < w.heap.size) (c2 : w.cell? ⟨Bc, 2, none⟩ = some (.map none)) (f2 : w.frozen? ⟨Bc, 2, none⟩ = false)
    (hl : ∀ s ∈ [o.d, o.e, o.f], s.size ≤ 281474976710656) :
    Calls Try.prog 25 #[.pointer (some ⟨Bc, 0, none⟩), .agg #[.string o.a, .string o.b, .string o.c, .string o.d, .string o.e, .string o.f], .agg #[.slice o.kp o.kn o.kc, .nilIface]] w
      fun e w' => e = .returned (.tuple #[]) ∧ ∃ W6, Below ((((w.setCell ⟨Bc, 2, none⟩ (Value.map (some (w.heap.size + 1 + 1)))).alloc (Obj.cells #[Value.string o.a, Value.string o.b, Value.string o.c, Value.string o.d, Value.string o.e, Value.string o.f] 58)).alloc (Obj.cells #[Value.slice o.kp o.kn o.kc, Value.nilIface] 62)).alloc (Obj.map #[] 0)).heap.size ((((w.setCell ⟨Bc, 2, none⟩ (Value.map (some (w.heap.size + 1 + 1)))).alloc (Obj.cells #[Value.string o.a, Value.string o.b, Value.string o.c, Value.string o.d, Value.string o.e, Value.string o.f] 58)).alloc (Obj.cells #[Value.slice o.kp o.kn o.kc, Value.nilIface] 62)).alloc (Obj.map #[] 0)) W6 ∧ W6.drew.mapTurned w' (w.heap.size + 1 + 1) ∧ w'.ownsMap Try.prog 58 elemR (w.heap.size + 1 + 1) (0 + 1) (DataW.put (DataW.map []) (kl o) (.held (keyVal o))) := by
  have hnil := fun (wx : World) (r : Option Nat) => run_eql_map_nil (P := Try.prog) wx 50 58 62 r Try.underlying50
  have hmm := @run_makeMap Try.prog
  have hBc1 : Bc < w.heap.size + 1 := by omega
  have hBc2 : Bc < w.heap.size + 1 + 1 := by omega
  have hl0 := fun (wx : World) => Maps.len_nil (P := Try.prog) (w := wx) Try.underlying50 3
  go_enter Try.func25, Try.ntmps25
  go_wp2_with fail
  generalize hW : (((w.setCell ⟨Bc, 2, none⟩ (Value.map (some (w.heap.size + 1 + 1)))).alloc (Obj.cells #[Value.string o.a, Value.string o.b, Value.string o.c, Value.string o.d, Value.string o.e, Value.string o.f] 58)).alloc (Obj.cells #[Value.slice o.kp o.kn o.kc, Value.nilIface] 62)).alloc (Obj.map #[] 0) = W
  have hBi : w.heap.size < W.heap.size := by rw [← hW]; simp; omega
  have hz6 : w.heap.size + 1 < W.heap.size := by rw [← hW]; simp
  have d3 : W.cell? ⟨w.heap.size, 3, none⟩ = some (.string o.d) := by rw [← hW]; rw [cell3_at0 _ _ _ _ _ _ (by simp)]; rfl
  have d4 : W.cell? ⟨w.heap.size, 4, none⟩ = some (.string o.e) := by rw [← hW]; rw [cell3_at0 _ _ _ _ _ _ (by simp)]; rfl
  have d5 : W.cell? ⟨w.heap.size, 5, none⟩ = some (.string o.f) := by rw [← hW]; rw [cell3_at0 _ _ _ _ _ _ (by simp)]; rfl
  have F3 : W.frozen? ⟨w.heap.size, 3, none⟩ = false := by rw [← hW]; rw [frozen3_at0 _ _ _ _ _ _ (by simp)]
  have F4 : W.frozen? ⟨w.heap.size, 4, none⟩ = false := by rw [← hW]; rw [frozen3_at0 _ _ _ _ _ _ (by simp)]
  have F5 : W.frozen? ⟨w.heap.size, 5, none⟩ = false := by rw [← hW]; rw [frozen3_at0 _ _ _ _ _ _ (by simp)]
  have D0 : Hid (W.cell? ⟨w.heap.size, 0, none⟩ = some (.string o.a)) := show _ = _ by rw [← hW]; rw [cell3_at0 _ _ _ _ _ _ (by simp)]; rfl
  have D1 : Hid (W.cell? ⟨w.heap.size, 1, none⟩ = some (.string o.b)) := show _ = _ by rw [← hW]; rw [cell3_at0 _ _ _ _ _ _ (by simp)]; rfl
  have D2 : Hid (W.cell? ⟨w.heap.size, 2, none⟩ = some (.string o.c)) := show _ = _ by rw [← hW]; rw [cell3_at0 _ _ _ _ _ _ (by simp)]; rfl
  have E0 : Hid (W.cell? ⟨w.heap.size + 1, 0, none⟩ = some (.slice o.kp o.kn o.kc)) := show _ = _ by rw [← hW]; rw [cell3_at1 _ _ _ _ _ _ (by simp)]; rfl
  have E1 : Hid (W.cell? ⟨w.heap.size + 1, 1, none⟩ = some .nilIface) := show _ = _ by rw [← hW]; rw [cell3_at1 _ _ _ _ _ _ (by simp)]; rfl
  have G2 : Hid (W.cell? ⟨Bc, 2, none⟩ = some (.map (some (w.heap.size + 1 + 1)))) := show _ = _ by rw [← hW]; rw [cell_alloc3 _ _ _ _ _ (by simp; omega)]; exact World.cell?_setCell_same _ _ _ c2
  have HOW : Hid (W.ownsMap Try.prog 58 elemR (w.heap.size + 1 + 1) 0 (DataW.map [])) := show World.ownsMap _ _ _ _ _ _ _ by rw [← hW]; exact own_made3 _ _ _ _ (by simp)
  have hbm : (w.heap.size + 1 + 1) < W.heap.size := by rw [← hW]; simp
  have hBcW : Bc < W.heap.size := by rw [← hW]; simp; omega
  have ld := hl o.d (by simp)
  have le := hl o.e (by simp)
  have lf := hl o.f (by simp)
  clear hl
  go_region_held3 (fun w' => w'.cell? ⟨w.heap.size, 3, none⟩ = some (.string o.d) ∧ w'.cell? ⟨w.heap.size, 4, none⟩ = some (.string o.e) ∧ w'.cell? ⟨w.heap.size, 5, none⟩ = some (.string o.f) ∧
      w'.frozen? ⟨w.heap.size, 3, none⟩ = false ∧ w'.frozen? ⟨w.heap.size, 4, none⟩ = false ∧ w'.frozen? ⟨w.heap.size, 5, none⟩ = false ∧ Hid (Below W.heap.size W w'))
    (first
      | exact ⟨by simpa using d3, by simpa using d4, by simpa using d5, by simpa using F3, by simpa using F4, by simpa using F5, (Below.refl _ W).drew⟩
      | (go_split_ands
         rw [setCell_self _ _ _ _ (by assumption)]
         exact ⟨by assumption, by assumption, by assumption, by assumption, by assumption, by assumption, by assumption⟩)
      | (go_split_ands
         obtain ⟨k1, k2, k3⟩ := region_call hBi (by assumption) hbx
         exact ⟨by rw [k1]; assumption, by rw [k1]; assumption, by rw [k1]; assumption, by rw [k2]; assumption, by rw [k2]; assumption, by rw [k2]; assumption, k3⟩))
    ((go_at_call 26; refine (clone_any _ _ (by assumption)).mono ?_; rintro e w1 ⟨rfl, hbx⟩))
  rename_i hH
  obtain ⟨-, -, -, -, -, -, HB6⟩ := hH
  generalize ((w1.setCell ⟨w.heap.size, 3, none⟩ (Value.string o.d)).setCell ⟨w.heap.size, 4, none⟩ (Value.string o.e)).setCell ⟨w.heap.size, 5, none⟩ (Value.string o.f) = W6 at HB6 ⊢
  have hb6 := HB6.out
  have g2 : W6.cell? ⟨Bc, 2, none⟩ = some (.map (some (w.heap.size + 1 + 1))) := by rw [hb6.cell (p := ⟨Bc, 2, none⟩) hBcW]; exact G2.out
  have i0 : W6.cell? ⟨w.heap.size, 0, none⟩ = some (.string o.a) := by rw [hb6.cell (p := ⟨w.heap.size, 0, none⟩) hBi]; exact D0.out
  have i1 : W6.cell? ⟨w.heap.size, 1, none⟩ = some (.string o.b) := by rw [hb6.cell (p := ⟨w.heap.size, 1, none⟩) hBi]; exact D1.out
  have i2 : W6.cell? ⟨w.heap.size, 2, none⟩ = some (.string o.c) := by rw [hb6.cell (p := ⟨w.heap.size, 2, none⟩) hBi]; exact D2.out
  have i3 : W6.cell? ⟨w.heap.size, 3, none⟩ = some (.string o.d) := by rw [hb6.cell (p := ⟨w.heap.size, 3, none⟩) hBi]; exact d3
  have i4 : W6.cell? ⟨w.heap.size, 4, none⟩ = some (.string o.e) := by rw [hb6.cell (p := ⟨w.heap.size, 4, none⟩) hBi]; exact d4
  have i5 : W6.cell? ⟨w.heap.size, 5, none⟩ = some (.string o.f) := by rw [hb6.cell (p := ⟨w.heap.size, 5, none⟩) hBi]; exact d5
  have j0 : W6.cell? ⟨w.heap.size + 1, 0, none⟩ = some (.slice o.kp o.kn o.kc) := by rw [hb6.cell (p := ⟨w.heap.size + 1, 0, none⟩) hz6]; exact E0.out
  have j1 : W6.cell? ⟨w.heap.size + 1, 1, none⟩ = some .nilIface := by rw [hb6.cell (p := ⟨w.heap.size + 1, 1, none⟩) hz6]; exact E1.out
  have hown6 : W6.drew.ownsMap Try.prog 58 elemR (w.heap.size + 1 + 1) 0 (DataW.map []) := own_below HOW.out hb6.drew hbm
  obtain ⟨w2, hrun, hown2, hturn⟩ := hown6.store law Try.underlying50 (by unfold maxLen; omega) (keyOf_op o hid) (show elemR (keyVal o) = some (.held (keyVal o), []) from rfl)
  unfold idVal keyVal at hrun
  have HO2 : Hid (w2.ownsMap Try.prog 58 elemR (w.heap.size + 1 + 1) (0 + 1) (DataW.put (DataW.map []) (kl o) (.held (keyVal o)))) := hown2
  have HT : Hid (W6.drew.mapTurned w2 (w.heap.size + 1 + 1)) := hturn
  have HWE : Hid ((((w.setCell ⟨Bc, 2, none⟩ (Value.map (some (w.heap.size + 1 + 1)))).alloc (Obj.cells #[Value.string o.a, Value.string o.b, Value.string o.c, Value.string o.d, Value.string o.e, Value.string o.f] 58)).alloc (Obj.cells #[Value.slice o.kp o.kn o.kc, Value.nilIface] 62)).alloc (Obj.map #[] 0) = W) := hW
  clear hown2 hturn hown6 hW hb6 d3 d4 d5 F3 F4 F5 hbx
  go_wp2
  go_region
  go_end0
  exact ⟨rfl, W6, by rw [HWE.out]; exact HB6.out, HT.out, HO2.out⟩

set_option maxHeartbeats 2000000 in
set_option maxRecDepth 100000 in
theorem add_C (Bc : Nat) (o : KOp) (w : World) (hid : IdOk o) (hBc : Bc < w.heap.size) (b : Nat) (mo : Option Nat) (DR : DataW Value) (hsz : 512 ≤ Maps.size DR) (c2 : w.cell? ⟨Bc, 2, none⟩ = some (.map (some b))) (f2 : w.frozen? ⟨Bc, 2, none⟩ = false) (c3 : w.cell? ⟨Bc, 3, none⟩ = some (.map mo)) (f3 : w.frozen? ⟨Bc, 3, none⟩ = false) (hown : w.ownsMap Try.prog 58 elemR b (Maps.size DR) DR)
    (hl : ∀ s ∈ [o.d, o.e, o.f], s.size ≤ 281474976710656) :
    Calls Try.prog 25 #[.pointer (some ⟨Bc, 0, none⟩), .agg #[.string o.a, .string o.b, .string o.c, .string o.d, .string o.e, .string o.f], .agg #[.slice o.kp o.kn o.kc, .nilIface]] w
      fun e w' => e = .returned (.tuple #[]) ∧ ∃ W6, Below ((((((w.setCell ⟨Bc, 3, none⟩ (Value.map (some b))).setCell ⟨Bc, 2, none⟩ (Value.map Option.none)).setCell ⟨Bc, 2, none⟩ (Value.map (some (w.heap.size + 1 + 1)))).alloc (Obj.cells #[Value.string o.a, Value.string o.b, Value.string o.c, Value.string o.d, Value.string o.e, Value.string o.f] 58)).alloc (Obj.cells #[Value.slice o.kp o.kn o.kc, Value.nilIface] 62)).alloc (Obj.map #[] 0)).heap.size ((((((w.setCell ⟨Bc, 3, none⟩ (Value.map (some b))).setCell ⟨Bc, 2, none⟩ (Value.map Option.none)).setCell ⟨Bc, 2, none⟩ (Value.map (some (w.heap.size + 1 + 1)))).alloc (Obj.cells #[Value.string o.a, Value.string o.b, Value.string o.c, Value.string o.d, Value.string o.e, Value.string o.f] 58)).alloc (Obj.cells #[Value.slice o.kp o.kn o.kc, Value.nilIface] 62)).alloc (Obj.map #[] 0)) W6 ∧ W6.drew.mapTurned w' (w.heap.size + 1 + 1) ∧ w'.ownsMap Try.prog 58 elemR (w.heap.size + 1 + 1) (0 + 1) (DataW.put (DataW.map []) (kl o) (.held (keyVal o))) := by
  have hnil := fun (wx : World) (r : Option Nat) => run_eql_map_nil (P := Try.prog) wx 50 58 62 r Try.underlying50
  have hmm := @run_makeMap Try.prog
  have hBc1 : Bc < w.heap.size + 1 := by omega
  have hBc2 : Bc < w.heap.size + 1 + 1 := by omega
  have hsz' : (512 : Int) ≤ (Maps.size DR : Int) := by omega
  clear hsz
  have HO : Hid (w.ownsMap Try.prog 58 elemR b (Maps.size DR) DR) := hown
  clear hown
  go_enter Try.func25, Try.ntmps25
  go_wp2_with (at_len; refine wpList_len_own _ rfl _ 50 rfl 58 62 Try.underlying50 elemR b (Maps.size DR) DR rfl ((HO.out.alloc _).alloc _) ?_)
  generalize hW : (((((w.setCell ⟨Bc, 3, none⟩ (Value.map (some b))).setCell ⟨Bc, 2, none⟩ (Value.map Option.none)).setCell ⟨Bc, 2, none⟩ (Value.map (some (w.heap.size + 1 + 1)))).alloc (Obj.cells #[Value.string o.a, Value.string o.b, Value.string o.c, Value.string o.d, Value.string o.e, Value.string o.f] 58)).alloc (Obj.cells #[Value.slice o.kp o.kn o.kc, Value.nilIface] 62)).alloc (Obj.map #[] 0) = W
  have hBi : w.heap.size < W.heap.size := by rw [← hW]; simp; omega
  have hz6 : w.heap.size + 1 < W.heap.size := by rw [← hW]; simp
  have d3 : W.cell? ⟨w.heap.size, 3, none⟩ = some (.string o.d) := by rw [← hW]; rw [cell3_at0 _ _ _ _ _ _ (by simp)]; rfl
  have d4 : W.cell? ⟨w.heap.size, 4, none⟩ = some (.string o.e) := by rw [← hW]; rw [cell3_at0 _ _ _ _ _ _ (by simp)]; rfl
  have d5 : W.cell? ⟨w.heap.size, 5, none⟩ = some (.string o.f) := by rw [← hW]; rw [cell3_at0 _ _ _ _ _ _ (by simp)]; rfl
  have F3 : W.frozen? ⟨w.heap.size, 3, none⟩ = false := by rw [← hW]; rw [frozen3_at0 _ _ _ _ _ _ (by simp)]
  have F4 : W.frozen? ⟨w.heap.size, 4, none⟩ = false := by rw [← hW]; rw [frozen3_at0 _ _ _ _ _ _ (by simp)]
  have F5 : W.frozen? ⟨w.heap.size, 5, none⟩ = false := by rw [← hW]; rw [frozen3_at0 _ _ _ _ _ _ (by simp)]
  have D0 : Hid (W.cell? ⟨w.heap.size, 0, none⟩ = some (.string o.a)) := show _ = _ by rw [← hW]; rw [cell3_at0 _ _ _ _ _ _ (by simp)]; rfl
  have D1 : Hid (W.cell? ⟨w.heap.size, 1, none⟩ = some (.string o.b)) := show _ = _ by rw [← hW]; rw [cell3_at0 _ _ _ _ _ _ (by simp)]; rfl
  have D2 : Hid (W.cell? ⟨w.heap.size, 2, none⟩ = some (.string o.c)) := show _ = _ by rw [← hW]; rw [cell3_at0 _ _ _ _ _ _ (by simp)]; rfl
  have E0 : Hid (W.cell? ⟨w.heap.size + 1, 0, none⟩ = some (.slice o.kp o.kn o.kc)) := show _ = _ by rw [← hW]; rw [cell3_at1 _ _ _ _ _ _ (by simp)]; rfl
  have E1 : Hid (W.cell? ⟨w.heap.size + 1, 1, none⟩ = some .nilIface) := show _ = _ by rw [← hW]; rw [cell3_at1 _ _ _ _ _ _ (by simp)]; rfl
  have G2 : Hid (W.cell? ⟨Bc, 2, none⟩ = some (.map (some (w.heap.size + 1 + 1)))) := show _ = _ by rw [← hW]; rw [cell_alloc3 _ _ _ _ _ (by simp; omega)]; exact World.cell?_setCell_same _ _ _ (cell_setCell_some _ _ _ _ (by rw [World.cell?_setCell_other _ _ _ _ (by simp)]; exact c2))
  have HOW : Hid (W.ownsMap Try.prog 58 elemR (w.heap.size + 1 + 1) 0 (DataW.map [])) := show World.ownsMap _ _ _ _ _ _ _ by rw [← hW]; exact own_made3 _ _ _ _ (by simp)
  have hbm : (w.heap.size + 1 + 1) < W.heap.size := by rw [← hW]; simp
  have hBcW : Bc < W.heap.size := by rw [← hW]; simp; omega
  have ld := hl o.d (by simp)
  have le := hl o.e (by simp)
  have lf := hl o.f (by simp)
  clear hl
  go_region_held3 (fun w' => w'.cell? ⟨w.heap.size, 3, none⟩ = some (.string o.d) ∧ w'.cell? ⟨w.heap.size, 4, none⟩ = some (.string o.e) ∧ w'.cell? ⟨w.heap.size, 5, none⟩ = some (.string o.f) ∧
      w'.frozen? ⟨w.heap.size, 3, none⟩ = false ∧ w'.frozen? ⟨w.heap.size, 4, none⟩ = false ∧ w'.frozen? ⟨w.heap.size, 5, none⟩ = false ∧ Hid (Below W.heap.size W w'))
    (first
      | exact ⟨by simpa using d3, by simpa using d4, by simpa using d5, by simpa using F3, by simpa using F4, by simpa using F5, (Below.refl _ W).drew⟩
      | (go_split_ands
         rw [setCell_self _ _ _ _ (by assumption)]
         exact ⟨by assumption, by assumption, by assumption, by assumption, by assumption, by assumption, by assumption⟩)
      | (go_split_ands
         obtain ⟨k1, k2, k3⟩ := region_call hBi (by assumption) hbx
         exact ⟨by rw [k1]; assumption, by rw [k1]; assumption, by rw [k1]; assumption, by rw [k2]; assumption, by rw [k2]; assumption, by rw [k2]; assumption, k3⟩))
    ((go_at_call 26; refine (clone_any _ _ (by assumption)).mono ?_; rintro e w1 ⟨rfl, hbx⟩))
  rename_i hH
  obtain ⟨-, -, -, -, -, -, HB6⟩ := hH
  generalize ((w1.setCell ⟨w.heap.size, 3, none⟩ (Value.string o.d)).setCell ⟨w.heap.size, 4, none⟩ (Value.string o.e)).setCell ⟨w.heap.size, 5, none⟩ (Value.string o.f) = W6 at HB6 ⊢
  have hb6 := HB6.out
  have g2 : W6.cell? ⟨Bc, 2, none⟩ = some (.map (some (w.heap.size + 1 + 1))) := by rw [hb6.cell (p := ⟨Bc, 2, none⟩) hBcW]; exact G2.out
  have i0 : W6.cell? ⟨w.heap.size, 0, none⟩ = some (.string o.a) := by rw [hb6.cell (p := ⟨w.heap.size, 0, none⟩) hBi]; exact D0.out
  have i1 : W6.cell? ⟨w.heap.size, 1, none⟩ = some (.string o.b) := by rw [hb6.cell (p := ⟨w.heap.size, 1, none⟩) hBi]; exact D1.out
  have i2 : W6.cell? ⟨w.heap.size, 2, none⟩ = some (.string o.c) := by rw [hb6.cell (p := ⟨w.heap.size, 2, none⟩) hBi]; exact D2.out
  have i3 : W6.cell? ⟨w.heap.size, 3, none⟩ = some (.string o.d) := by rw [hb6.cell (p := ⟨w.heap.size, 3, none⟩) hBi]; exact d3
  have i4 : W6.cell? ⟨w.heap.size, 4, none⟩ = some (.string o.e) := by rw [hb6.cell (p := ⟨w.heap.size, 4, none⟩) hBi]; exact d4
  have i5 : W6.cell? ⟨w.heap.size, 5, none⟩ = some (.string o.f) := by rw [hb6.cell (p := ⟨w.heap.size, 5, none⟩) hBi]; exact d5
  have j0 : W6.cell? ⟨w.heap.size + 1, 0, none⟩ = some (.slice o.kp o.kn o.kc) := by rw [hb6.cell (p := ⟨w.heap.size + 1, 0, none⟩) hz6]; exact E0.out
  have j1 : W6.cell? ⟨w.heap.size + 1, 1, none⟩ = some .nilIface := by rw [hb6.cell (p := ⟨w.heap.size + 1, 1, none⟩) hz6]; exact E1.out
  have hown6 : W6.drew.ownsMap Try.prog 58 elemR (w.heap.size + 1 + 1) 0 (DataW.map []) := own_below HOW.out hb6.drew hbm
  obtain ⟨w2, hrun, hown2, hturn⟩ := hown6.store law Try.underlying50 (by unfold maxLen; omega) (keyOf_op o hid) (show elemR (keyVal o) = some (.held (keyVal o), []) from rfl)
  unfold idVal keyVal at hrun
  have HO2 : Hid (w2.ownsMap Try.prog 58 elemR (w.heap.size + 1 + 1) (0 + 1) (DataW.put (DataW.map []) (kl o) (.held (keyVal o)))) := hown2
  have HT : Hid (W6.drew.mapTurned w2 (w.heap.size + 1 + 1)) := hturn
  have HWE : Hid ((((((w.setCell ⟨Bc, 3, none⟩ (Value.map (some b))).setCell ⟨Bc, 2, none⟩ (Value.map Option.none)).setCell ⟨Bc, 2, none⟩ (Value.map (some (w.heap.size + 1 + 1)))).alloc (Obj.cells #[Value.string o.a, Value.string o.b, Value.string o.c, Value.string o.d, Value.string o.e, Value.string o.f] 58)).alloc (Obj.cells #[Value.slice o.kp o.kn o.kc, Value.nilIface] 62)).alloc (Obj.map #[] 0) = W) := hW
  clear hown2 hturn hown6 hW hb6 d3 d4 d5 F3 F4 F5 hbx
  go_wp2
  go_region
  go_end0
  exact ⟨rfl, W6, by rw [HWE.out]; exact HB6.out, HT.out, HO2.out⟩

end Go.Proofs.Qxb6616163a
