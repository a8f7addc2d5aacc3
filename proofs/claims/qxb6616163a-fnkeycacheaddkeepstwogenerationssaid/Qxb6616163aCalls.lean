/-
  Seat b6616163a: the law's own doors to the cache: cacheAdd, cacheRecent, cacheOlder, ZZkeyCacheLens, ZZnewKeyCache.
-/
import Derived.Test.Qxb6616163aCache
import Derived.BigQuiet
import Derived.Deep.QuietTactic
namespace Go.Proofs.Qxb6616163a
open Go.RowKit Go.Maps

theorem CacheAt.below {B Bc : Nat} {w w' : World} {DR DO : DataW Value} (h : CacheAt B w Bc DR DO) (hb : Below w.heap.size w w') : CacheAt B w' Bc DR DO := by
  obtain ⟨mr, mo, hB, hc, hmr, hmo, hne⟩ := h
  refine ⟨mr, mo, hB, ?_, hmr.same (fun b e => ?_), hmo.same (fun b e => ?_), hne⟩
  · rw [hb.block Bc (Array.getElem?_eq_some_iff.1 hc).1]; exact hc
  · subst e; exact hb.block b hmr.lt
  · subst e; exact hb.block b hmo.lt
theorem CacheAt.size {B Bc : Nat} {w : World} {DR DO : DataW Value} (h : CacheAt B w Bc DR DO) : B ≤ w.heap.size := by
  obtain ⟨mr, mo, hB, hc, _⟩ := h
  have := (Array.getElem?_eq_some_iff.1 hc).1
  omega

theorem addKey_any (B Bc : Nat) (DR DO : DataW Value) (o : KOp) (w : World) (hid : IdOk o) (hl : ∀ s ∈ [o.d, o.e, o.f], s.size ≤ 281474976710656) (h : CacheAt B w Bc DR DO) :
    Calls Try.prog 21 #[.pointer (some ⟨Bc, 0, none⟩), .string o.a, .string o.b, .string o.c, .string o.d, .string o.e, .string o.f, .slice o.kp o.kn o.kc] w
      fun e w' => e = .returned (.tuple #[]) ∧ CacheAt B w' Bc (addD (DR, DO) (kl o) (keyVal o)).1 (addD (DR, DO) (kl o) (keyVal o)).2 ∧ Below B w w' := by
  go_enter Try.func21, Try.ntmps21
  go_wp2_with fail
  refine (add_any B Bc DR DO o w hid hl h).mono ?_
  rintro e w1 ⟨rfl, hc, hb⟩
  have HC : Hid (CacheAt B w1 Bc (addD (DR, DO) (kl o) (keyVal o)).1 (addD (DR, DO) (kl o) (keyVal o)).2) := hc
  have HB : Hid (Below B w w1) := hb
  clear hc hb
  go_wp2
  go_end0
  exact ⟨rfl, HC.out, HB.out⟩

theorem cacheAdd_any (B Bc : Nat) (DR DO : DataW Value) (o : KOp) (w : World) (hid : IdOk o) (hl : ∀ s ∈ [o.d, o.e, o.f], s.size ≤ 281474976710656) (h : CacheAt B w Bc DR DO) :
    Calls Try.prog 10 #[.pointer (some ⟨Bc, 0, none⟩), .agg #[.string o.a, .string o.b, .string o.c, .string o.d, .string o.e, .string o.f, .slice o.kp o.kn o.kc]] w
      fun e w' => e = .returned (.tuple #[]) ∧ CacheAt B w' Bc (addD (DR, DO) (kl o) (keyVal o)).1 (addD (DR, DO) (kl o) (keyVal o)).2 ∧ Below B w w' := by
  have HH : Hid (CacheAt B w Bc DR DO) := h
  clear h
  go_enter Try.func10, Try.ntmps10
  go_wp2_with fail
  have hb0 : Below w.heap.size w (w.alloc (.cells #[.string o.a, .string o.b, .string o.c, .string o.d, .string o.e, .string o.f, .slice o.kp o.kn o.kc] 29)) := (Below.refl _ _).alloc (Nat.le_refl _) _
  refine (addKey_any B Bc DR DO o _ hid hl (HH.out.below hb0)).mono ?_
  rintro e w1 ⟨rfl, hc, hb⟩
  have HC : Hid (CacheAt B w1 Bc (addD (DR, DO) (kl o) (keyVal o)).1 (addD (DR, DO) (kl o) (keyVal o)).2) := hc
  have HB : Hid (Below B w w1) := (hb0.mono HH.out.size).trans hb
  clear hc hb hb0
  go_wp2
  go_end0
  exact ⟨rfl, HC.out, HB.out⟩

def zero62 : Value := .agg #[.slice none 0 0, .nilIface]
theorem zeroE (w : World) : (zeroValue 62).run Try.prog w = .ok zero62 w := by kernel_rfl

theorem look_run {B : Nat} {w : World} {m : Option Nat} {D : DataW Value} (h : MapIs B w m D) (o : KOp) (hid : IdOk o) (x : Value) (hx : D.atKey (kl o) (.held zero62) = .held x) :
    (Instr.lookup 50 (.map m) (idVal o) true).run Try.prog w = .ok (.tuple #[x, .bool (Maps.has D (kl o))]) w := by
  cases m with
  | none =>
    have hD : D = .map [] := h
    subst hD
    have hz : x = zero62 := by
      have : (DataW.held zero62 : DataW Value) = .held x := hx
      injection this with this
      exact this.symm
    subst hz
    exact Maps.look_nil true law Try.underlying50 (zeroE w) (keyOf_op o hid)
  | some b =>
    obtain ⟨v, ps, hrun, hv⟩ := h.2.look_ok law Try.underlying50 (zeroE w) (show elemR zero62 = some (.held zero62, []) from rfl) (keyOf_op o hid)
    have : (some ((DataW.held v : DataW Value), ([] : List MemPlace))) = some (D.atKey (kl o) (.held zero62), ps) := hv
    injection this with this
    injection this with this _
    rw [hx] at this
    injection this with this
    subst this
    exact hrun

theorem len_run {B : Nat} {w : World} {m : Option Nat} {D : DataW Value} (h : MapIs B w m D) (q : Nat) : (Builtin.len_ #[50] 3 #[.map m]).run Try.prog (w.drewN q) = .ok (.int .i64 (Maps.size D)) (w.drewN q) := by
  cases m with
  | none =>
    have hD : D = .map [] := h
    subst hD
    exact Maps.len_nil Try.underlying50 3
  | some b =>
    obtain ⟨_, es, clock, h1, h2⟩ := h
    exact World.ownsMap.len (w := w.drewN q) ⟨es, clock, h1, h2⟩ Try.underlying50 3

theorem recentKey_any (B Bc : Nat) (DR DO : DataW Value) (o : KOp) (p : Option Addr) (n c : Nat) (w : World) (hid : IdOk o) (h : CacheAt B w Bc DR DO) (hx : DR.atKey (kl o) (.held zero62) = .held (.agg #[.slice p n c, .nilIface])) :
    Calls Try.prog 22 #[.pointer (some ⟨Bc, 0, none⟩), .string o.a, .string o.b, .string o.c, .string o.d, .string o.e, .string o.f] w
      fun e w' => e = .returned (.tuple #[.slice p n c, .bool (Maps.has DR (kl o))]) ∧ Below w.heap.size w w' := by
  obtain ⟨mr, mo, hB, hc, hmr, hmo, hne⟩ := h
  have c2 : w.cell? ⟨Bc, 2, none⟩ = some (.map mr) := by rw [cell_of_row _ _ _ _ _ _ hc]; rfl
  have hrun := look_run hmr o hid _ hx
  unfold idVal at hrun
  clear hc hmr hmo hne hx hB
  go_enter Try.func22, Try.ntmps22
  go_wp2
  go_ret2
  exact ⟨rfl, (Below.refl _ _).alloc (Nat.le_refl _) _⟩

theorem cacheRecent_any (B Bc : Nat) (DR DO : DataW Value) (o : KOp) (p : Option Addr) (n c : Nat) (w : World) (hid : IdOk o) (h : CacheAt B w Bc DR DO) (hx : DR.atKey (kl o) (.held zero62) = .held (.agg #[.slice p n c, .nilIface])) :
    Calls Try.prog 13 #[.pointer (some ⟨Bc, 0, none⟩), .agg #[.string o.a, .string o.b, .string o.c, .string o.d, .string o.e, .string o.f, .slice o.kp o.kn o.kc]] w
      fun e w' => e = .returned (.tuple #[.slice p n c, .bool (Maps.has DR (kl o))]) ∧ Below w.heap.size w w' := by
  have HH : Hid (CacheAt B w Bc DR DO) := h
  have HX : Hid (DR.atKey (kl o) (.held zero62) = .held (.agg #[.slice p n c, .nilIface])) := hx
  clear h hx
  go_enter Try.func13, Try.ntmps13
  go_wp2_with fail
  have hb0 : Below w.heap.size w (w.alloc (.cells #[.string o.a, .string o.b, .string o.c, .string o.d, .string o.e, .string o.f, .slice o.kp o.kn o.kc] 29)) := (Below.refl _ _).alloc (Nat.le_refl _) _
  refine (recentKey_any B Bc DR DO o p n c _ hid (HH.out.below hb0) HX.out).mono ?_
  rintro e w1 ⟨rfl, hb⟩
  have HB : Hid (Below w.heap.size w w1) := hb0.trans (hb.mono (by simp))
  clear hb hb0
  go_wp2
  go_ret2
  exact ⟨rfl, HB.out⟩

theorem olderKey_any (B Bc : Nat) (DR DO : DataW Value) (o : KOp) (p : Option Addr) (n c : Nat) (w : World) (hid : IdOk o) (h : CacheAt B w Bc DR DO) (hx : DO.atKey (kl o) (.held zero62) = .held (.agg #[.slice p n c, .nilIface])) :
    Calls Try.prog 23 #[.pointer (some ⟨Bc, 0, none⟩), .string o.a, .string o.b, .string o.c, .string o.d, .string o.e, .string o.f] w
      fun e w' => e = .returned (.tuple #[.slice p n c, .bool (Maps.has DO (kl o))]) ∧ Below w.heap.size w w' := by
  obtain ⟨mr, mo, hB, hc, hmr, hmo, hne⟩ := h
  have c2 : w.cell? ⟨Bc, 3, none⟩ = some (.map mo) := by rw [cell_of_row _ _ _ _ _ _ hc]; rfl
  have hrun := look_run hmo o hid _ hx
  unfold idVal at hrun
  clear hc hmr hmo hne hx hB
  go_enter Try.func23, Try.ntmps23
  go_wp2
  go_ret2
  exact ⟨rfl, (Below.refl _ _).alloc (Nat.le_refl _) _⟩

theorem cacheOlder_any (B Bc : Nat) (DR DO : DataW Value) (o : KOp) (p : Option Addr) (n c : Nat) (w : World) (hid : IdOk o) (h : CacheAt B w Bc DR DO) (hx : DO.atKey (kl o) (.held zero62) = .held (.agg #[.slice p n c, .nilIface])) :
    Calls Try.prog 16 #[.pointer (some ⟨Bc, 0, none⟩), .agg #[.string o.a, .string o.b, .string o.c, .string o.d, .string o.e, .string o.f, .slice o.kp o.kn o.kc]] w
      fun e w' => e = .returned (.tuple #[.slice p n c, .bool (Maps.has DO (kl o))]) ∧ Below w.heap.size w w' := by
  have HH : Hid (CacheAt B w Bc DR DO) := h
  have HX : Hid (DO.atKey (kl o) (.held zero62) = .held (.agg #[.slice p n c, .nilIface])) := hx
  clear h hx
  go_enter Try.func16, Try.ntmps16
  go_wp2_with fail
  have hb0 : Below w.heap.size w (w.alloc (.cells #[.string o.a, .string o.b, .string o.c, .string o.d, .string o.e, .string o.f, .slice o.kp o.kn o.kc] 29)) := (Below.refl _ _).alloc (Nat.le_refl _) _
  refine (olderKey_any B Bc DR DO o p n c _ hid (HH.out.below hb0) HX.out).mono ?_
  rintro e w1 ⟨rfl, hb⟩
  have HB : Hid (Below w.heap.size w w1) := hb0.trans (hb.mono (by simp))
  clear hb hb0
  go_wp2
  go_ret2
  exact ⟨rfl, HB.out⟩

theorem lens_any (B Bc : Nat) (DR DO : DataW Value) (w : World) (h : CacheAt B w Bc DR DO) :
    Calls Try.prog 11 #[.pointer (some ⟨Bc, 0, none⟩)] w
      fun e w' => e = .returned (.tuple #[.int .i64 (Maps.size DR), .int .i64 (Maps.size DO)]) ∧ Below w.heap.size w w' := by
  obtain ⟨mr, mo, hB, hc, hmr, hmo, hne⟩ := h
  have c2 : w.cell? ⟨Bc, 2, none⟩ = some (.map mr) := by rw [cell_of_row _ _ _ _ _ _ hc]; rfl
  have c3 : w.cell? ⟨Bc, 3, none⟩ = some (.map mo) := by rw [cell_of_row _ _ _ _ _ _ hc]; rfl
  have l2 : ∀ q, (Builtin.len_ #[50] 3 #[.map mr]).run Try.prog (w.drewN q) = .ok (.int .i64 (Maps.size DR)) (w.drewN q) := fun q => len_run hmr q
  have l3 : ∀ q, (Builtin.len_ #[50] 3 #[.map mo]).run Try.prog (w.drewN q) = .ok (.int .i64 (Maps.size DO)) (w.drewN q) := fun q => len_run hmo q
  clear hc hmr hmo hne hB
  go_enter Try.func11, Try.ntmps11
  go_wp2
  go_quiet (fail)
  go_wp2
  go_ret2
  exact ⟨rfl, rfl, rfl, rfl, Nat.le_refl _, fun _ _ => rfl⟩

theorem new_any (w : World) : Calls Try.prog 9 #[] w fun e w' => e = .returned (.pointer (some ⟨w.heap.size, 0, none⟩)) ∧ w' = w.alloc (.cells #[.int .i32 0, .int .u32 0, .map none, .map none] 52) := by
  go_enter Try.func9, Try.ntmps9
  go_wp2
  go_ret
  exact ⟨rfl, rfl⟩

end Go.Proofs.Qxb6616163a
