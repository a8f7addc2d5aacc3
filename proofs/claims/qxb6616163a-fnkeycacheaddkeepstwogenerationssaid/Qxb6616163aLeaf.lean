/-
  Seat b6616163a: the leaves: sameBytes of a slice with itself, strings.Clone, cloneKeyOp.
-/
import Derived.Test.Qxb6616163aBase
import Derived.BigQuiet
import Derived.Lib.Strings
import Derived.Lib.Walk
import Derived.Lib.BufferWrite
import Derived.Lib.UnsafeStr
import Derived.Lib.Hide
import Derived.Laws.MakeOwn
import Derived.Laws.CopyOwn
import Derived.Deep.WholeRow
import Derived.Deep.QuietTactic
namespace Go.Proofs.Qxb6616163a
open Go.RowKit

theorem sameBytes_nil (p q : Option Addr) (c c' : Nat) (w : World) :
    Calls Try.prog 14 #[.slice p 0 c, .slice q 0 c'] w fun e w' => e = .returned (.bool true) ∧ w' = w := by
  go_enter Try.func14, Try.ntmps14
  go_wp2
  refine wp_loop_rounds 1 ?_
  rw [rounds_succ]
  go_wp2
  go_ret
  exact ⟨rfl, rfl⟩

set_option maxHeartbeats 800000 in
theorem sameBytes_some (b off n c : Nat) (w : World) (hn : n ≤ maxLen) (h : ∀ j, j < n → ∃ x : Int, w.cell? ⟨b, off + j, none⟩ = some (.int .u8 x)) :
    Calls Try.prog 14 #[.slice (some ⟨b, off, none⟩) n c, .slice (some ⟨b, off, none⟩) n c] w fun e w' => e = .returned (.bool true) ∧ ∃ q, w' = w.drewN q := by
  unfold maxLen at hn
  go_enter Try.func14, Try.ntmps14
  go_wp2
  go_loopw [13] (fun i wr => ∃ k : Nat, k ≤ n ∧ i = .int .i64 k ∧ ∃ q, wr = w.drewN q) (fun i _ => n - (intOf i).toNat)
  case atStart => exact ⟨0, Nat.zero_le _, rfl, 0, rfl⟩
  case round =>
    obtain ⟨k, hk, rfl, q, rfl⟩ := hrel
    by_cases hlt : k < n
    · obtain ⟨x, hx⟩ := h k hlt
      have hlt' : (k : Int) < (n : Int) := by omega
      have hk0 : (0 : Int) ≤ (k : Int) := by omega
      clear h
      go_wp2
      go_quiet (fail)
      go_wp2
      go_roundw
      case rel => exact ⟨k + 1, by omega, by go_num, _, rfl⟩
      case measure => simp [intOf]; omega
    · go_wp2
      go_ret
      exact ⟨rfl, q, rfl⟩

theorem sameBytes_self (p : Option Addr) (n c : Nat) (w : World) (hn : n ≤ maxLen) {B : Nat} (h : BytesAt B w p n) :
    Calls Try.prog 14 #[.slice p n c, .slice p n c] w fun e w' => e = .returned (.bool true) ∧ Below w.heap.size w w' := by
  rcases h with rfl | ⟨b, off, xs, _, rfl, hl, h⟩
  · refine (sameBytes_nil p p c c w).mono ?_
    rintro e w' ⟨rfl, rfl⟩
    exact ⟨rfl, Below.refl _ _⟩
  · refine (sameBytes_some b off n c w hn (fun j hj => ⟨xs[j], h j _ (List.getElem?_eq_getElem (by omega))⟩)).mono ?_
    rintro e w' ⟨rfl, q, rfl⟩
    exact ⟨rfl, rfl, rfl, rfl, Nat.le_refl _, fun _ _ => rfl⟩

/-! ### strings.Clone: the same bytes; of what was there nothing has turned (after the shelf's own proof of stringslite.Clone, at this program's numbers) -/
theorem info5 : (Try.prog.info? 5).map (fun i => (i.zero, i.size, i.bytes)) = some (some (.int .u8 0), 1, 1) := by kernel_rfl

set_option maxHeartbeats 4000000 in
set_option maxRecDepth 100000 in
theorem liteClone_any (s : ByteArray) (w : World) (hlim : s.size ≤ 281474976710656) :
    Calls Try.prog 27 #[.string s] w fun e w' => e = .returned (.string s) ∧ Below w.heap.size w w' := by
  by_cases h0 : s.size = 0
  · have hs : s = ⟨#[]⟩ := by
      apply ByteArray.ext
      exact Array.eq_empty_of_size_eq_zero h0
    subst hs
    go_enter Try.func27, Try.ntmps27
    go_wp2
    go_ret
    exact ⟨rfl, Below.refl _ _⟩
  · obtain ⟨i0, hi, hz0, hz1, hz2⟩ := info_parts info5
    have hinfo : (Try.prog.info? 5).map (·.size) = some 1 := by rw [hi]; simp [hz1]
    have hco : Try.prog.cellsOf 5 = 1 := by simp [Program.cellsOf, hi, hz1]
    obtain ⟨M, hM⟩ : ∃ M, M = madeCells (Value.int .u8 0).cells (((s.size : Nat) : Int).toNat * i0.size) := ⟨_, rfl⟩
    have hMs : M.size = s.size := by rw [hM, size_madeCells, hz1]; simp
    have hmk : ∀ W : World, (Instr.makeSlice 27 (.int .i64 (s.size : Int)) (.int .i64 (s.size : Int))).run Try.prog W = .ok (.slice (some ⟨W.heap.size, 0, none⟩) s.size s.size) (W.alloc (.cells M 5)) := fun W => by
      have h := run_make (P := Try.prog) W 27 5 i0 (.int .u8 0) Try.underlying27 hi hz0 .i64 .i64 (s.size : Int) (s.size : Int) (by omega) (by omega) (by rw [hz2]; omega) (by omega)
      rw [← hM] at h
      simpa using h
    clear hM
    have hcp := Lib.run_copy_row_string (P := Try.prog) (w.alloc (.cells M 5)) 27 9 3 5 w.heap.size 0 s.size s.size s M 5 Try.underlying27 hinfo (heap_alloc_new w _) (Nat.le_refl _) (by omega)
    obtain ⟨Y, hY⟩ : ∃ Y, Y = (M.toList.take 0 ++ Lib.byteCells s.data.toList ++ M.toList.drop (0 + s.size)).toArray := ⟨_, rfl⟩
    rw [← hY] at hcp
    have hYl : Y.toList = Lib.byteCells s.data.toList := by
      rw [hY, List.toList_toArray, List.take_zero, List.nil_append, List.drop_of_length_le (by rw [Array.length_toList]; omega), List.append_nil]
    have hYs : Y.size = s.size := by rw [← Array.length_toList, hYl, Lib.byteCells_length, ← Lib.size_eq]
    have hgY : ((w.alloc (.cells M 5)).setRow w.heap.size Y).heap[w.heap.size]? = some (.cells Y 5 (0, 0)) := setRow_heap _ _ M _ 5 (0, 0) (heap_alloc_new w _)
    have hne : s.data.toList ≠ [] := fun e => h0 (by rw [Lib.size_eq, e]; rfl)
    have hUS := Lib.run_unsafeString_row (P := Try.prog) ((w.alloc (.cells M 5)).setRow w.heap.size Y) 65 3 9 5 Try.underlying65 hco w.heap.size Y.size (by unfold World.shape?; rw [hgY]) s.data.toList hne (by rw [← Lib.size_eq]; omega) (by rw [← Lib.size_eq]; omega)
      (fun j x hx => Lib.cells_of_row hgY Y.size j _ (by rw [List.take_of_length_le (by rw [Array.length_toList]; exact Nat.le_refl _), hYl]; simp [Lib.byteCells, hx]))
    rw [← Lib.size_eq] at hUS
    clear hY
    go_enter Try.func27, Try.ntmps27
    go_wp2
    go_ret
    have hb1 : Below w.heap.size w (w.alloc (.cells M 5)) := (Below.refl _ w).alloc (Nat.le_refl _) _
    have hb2 : Below w.heap.size (w.alloc (.cells M 5)) ((w.alloc (.cells M 5)).setRow w.heap.size Y) := ⟨rfl, rfl, rfl, by simp, fun k hk => setRow_other _ _ _ _ (by omega)⟩
    exact ⟨rfl, Lib.below_freeze (hb1.trans hb2) (p := ⟨w.heap.size, 0, none⟩) (Nat.le_refl _) _⟩

theorem clone_any (s : ByteArray) (w : World) (hlim : s.size ≤ 281474976710656) :
    Calls Try.prog 26 #[.string s] w fun e w' => e = .returned (.string s) ∧ Below w.heap.size w w' := by
  go_enter Try.func26, Try.ntmps26
  go_wp2_with (go_at_call 27; refine (liteClone_any _ _ hlim).mono ?_; rintro e w' ⟨rfl, hb⟩)
  go_ret
  exact ⟨rfl, hb⟩

/-! ### cloneKeyOp -/
theorem cloneKeyOp_nil (o : KOp) (w : World) (hk : o.kp = none) :
    Calls Try.prog 20 #[.agg #[.string o.a, .string o.b, .string o.c, .string o.d, .string o.e, .string o.f, .slice o.kp o.kn o.kc]] w
      fun e w' => e = .returned (.agg #[.string o.a, .string o.b, .string o.c, .string o.d, .string o.e, .string o.f, .slice o.kp o.kn o.kc]) ∧ Below w.heap.size w w' := by
  have kc := fun (wx : World) (n c : Nat) => run_neq_slice_nil_any (P := Try.prog) wx 27 5 none n c 0 0 Try.underlying27
  rw [hk]
  go_enter Try.func20, Try.ntmps20
  go_wp2
  exact bodyPost_ret (v := .agg #[.string o.a, .string o.b, .string o.c, .string o.d, .string o.e, .string o.f, .slice none o.kn o.kc]) (by simp [results, Try.results20, go_sem]) rfl ⟨rfl, ((Below.refl _ _).alloc (Nat.le_refl _) _).alloc (by simp) _⟩

theorem BytesAt.below {B : Nat} {w w' : World} {p : Option Addr} {n : Nat} (h : BytesAt B w p n) (hb : Below w.heap.size w w') : BytesAt B w' p n := by
  rcases h with rfl | ⟨b, off, xs, hBb, rfl, hl, h⟩
  · exact .inl rfl
  · refine .inr ⟨b, off, xs, hBb, rfl, hl, fun j x hx => ?_⟩
    have h1 := h j x hx
    rw [hb.cell (World.block_lt_of_cell? w _ h1)]
    exact h1

theorem heap3 (w : World) (A B C : Obj) : (((w.alloc A).alloc B).alloc C).heap[w.heap.size + 1 + 1]? = some C := by
  have := heap_alloc_new ((w.alloc A).alloc B) C
  simpa using this

theorem copy_bytes (W : World) (g kn kc : Nat) (ad : Addr) (M : Array Value) (hM : M.size = kn) (hg : W.heap[g]? = some (.cells M 5 (0, 0))) {B : Nat} (hb : BytesAt B W (some ad) kn) :
    ∃ (Y : Array Value) (xs : List Int), Y.toList = xs.map (Value.int .u8) ∧ xs.length = kn ∧
      (Builtin.copy_ #[27, 27] 3 #[.slice (some ⟨g, 0, none⟩) kn kn, .slice (some ad) kn kc]).run Try.prog W = .ok (goInt kn) (W.setRow g Y) := by
  obtain ⟨i0, hi, hz0, hz1, hz2⟩ := info_parts info5
  have hinfo : (Try.prog.info? 5).map (·.size) = some 1 := by rw [hi]; simp [hz1]
  rcases hb with rfl | ⟨b, off, xs, _, hp, hl, h⟩
  · refine ⟨M, [], ?_, rfl, ?_⟩
    · rw [Array.eq_empty_of_size_eq_zero hM]; rfl
    · rw [setRow_self W g M 5 (0, 0) hg]
      exact run_copy_none (P := Try.prog) W 27 27 3 5 _ _ 0 0 0 kc Try.underlying27 hinfo (by simp)
  · injection hp with hp
    subst hp
    have hcs : (xs.map (Value.int .u8)).length = kn := by simp [hl]
    refine ⟨(xs.map (Value.int .u8)).toArray, xs, by simp, hl, ?_⟩
    have hr := run_copy_row (P := Try.prog) W 27 27 3 5 g 0 kn kn ⟨b, off, none⟩ kn kc M 5 (xs.map (Value.int .u8)) Try.underlying27 hinfo hg (by rw [hcs]; simp)
      (fun j v hv => by
        rw [List.getElem?_map] at hv
        obtain ⟨x, hx, rfl⟩ := Option.map_eq_some_iff.1 hv
        have := h j x hx
        rw [Addr.add_lit]; exact this) (by omega) (fun v hv => by
        obtain ⟨x, _, rfl⟩ := List.mem_map.1 hv
        rfl)
    rw [hcs] at hr
    rw [hr]
    congr 2
    have : M.toList.drop (0 + kn) = [] := List.drop_of_length_le (by rw [Array.length_toList]; omega)
    rw [this]
    simp

theorem copy_bytes3 (w : World) (A B : Obj) (kn kc : Nat) (ad : Addr) (M : Array Value) (hM : M.size = kn) {B0 : Nat} (hb : BytesAt B0 (((w.alloc A).alloc B).alloc (.cells M 5)) (some ad) kn) :
    ∃ (Y : Array Value) (xs : List Int), Y.toList = xs.map (Value.int .u8) ∧ xs.length = kn ∧
      (Builtin.copy_ #[27, 27] 3 #[.slice (some ⟨w.heap.size + 1 + 1, 0, none⟩) kn kn, .slice (some ad) kn kc]).run Try.prog (((w.alloc A).alloc B).alloc (.cells M 5)) = .ok (goInt kn) (((w.alloc A).alloc B).alloc (.cells Y 5)) := by
  obtain ⟨Y, xs, h1, h2, h3⟩ := copy_bytes _ (w.heap.size + 1 + 1) kn kc ad M hM (heap3 w A B _) hb
  refine ⟨Y, xs, h1, h2, ?_⟩
  rw [h3]
  congr 1
  have e : w.heap.size + 1 + 1 = ((w.alloc A).alloc B).heap.size := by simp
  rw [e]
  exact World.setRow_alloc_new _ _ _ _

set_option maxHeartbeats 1000000 in
theorem cloneKeyOp_some (o : KOp) (ad : Addr) (w : World) (hk : o.kp = some ad) (hn : o.kn ≤ 140737488355328) {B : Nat} (hb : BytesAt B w o.kp o.kn) :
    Calls Try.prog 20 #[.agg #[.string o.a, .string o.b, .string o.c, .string o.d, .string o.e, .string o.f, .slice o.kp o.kn o.kc]] w
      fun e w' => e = .returned (.agg #[.string o.a, .string o.b, .string o.c, .string o.d, .string o.e, .string o.f, .slice (some ⟨w.heap.size + 2, 0, none⟩) o.kn o.kn]) ∧ Below w.heap.size w w' ∧ BytesAt w.heap.size w' (some ⟨w.heap.size + 2, 0, none⟩) o.kn := by
  obtain ⟨a, b, c, d, e, f, kp, kn, kc⟩ := o
  simp only at hk hn hb ⊢
  subst hk
  have kcx := fun (wx : World) (p : Addr) (n c : Nat) => run_neq_slice_nil_any (P := Try.prog) wx 27 5 (some p) n c 0 0 Try.underlying27
  obtain ⟨i0, hi, hz0, hz1, hz2⟩ := info_parts info5
  have hinfo : (Try.prog.info? 5).map (·.size) = some 1 := by rw [hi]; simp [hz1]
  obtain ⟨M, hM⟩ : ∃ M, M = madeCells (Value.int .u8 0).cells (((kn : Nat) : Int).toNat * i0.size) := ⟨_, rfl⟩
  have hMs : M.size = kn := by rw [hM, size_madeCells, hz1]; simp
  have hmk : ∀ W : World, (Instr.makeSlice 27 (.int .i64 (kn : Int)) (.int .i64 (kn : Int))).run Try.prog W = .ok (.slice (some ⟨W.heap.size, 0, none⟩) kn kn) (W.alloc (.cells M 5)) := fun W => by
    have h := run_make (P := Try.prog) W 27 5 i0 (.int .u8 0) Try.underlying27 hi hz0 .i64 .i64 (kn : Int) (kn : Int) (by omega) (by omega) (by rw [hz2]; omega) (by omega)
    rw [← hM] at h
    simpa using h
  clear hM hi hz0 hz1 hz2
  have hB3 : Below w.heap.size w (((w.alloc (.cells #[.string a, .string b, .string c, .string d, .string e, .string f, .slice (some ad) kn kc] 29)).alloc (.cells #[.string ⟨#[]⟩, .string ⟨#[]⟩, .string ⟨#[]⟩, .string ⟨#[]⟩, .string ⟨#[]⟩, .string ⟨#[]⟩, .slice none 0 0] 29)).alloc (.cells M 5)) :=
    (((Below.refl _ _).alloc (Nat.le_refl _) _).alloc (by simp) _).alloc (by simp; omega) _
  obtain ⟨Y, xs, hY, hxl, hcp⟩ := copy_bytes3 _ _ _ kn kc ad M hMs (hb.below hB3)
  have HY : Hid (Y.toList = xs.map (Value.int .u8)) := hY
  clear hY hB3
  go_enter Try.func20, Try.ntmps20
  go_wp2
  refine bodyPost_ret (v := .agg #[.string a, .string b, .string c, .string d, .string e, .string f, .slice (some ⟨w.heap.size + 1 + 1, 0, none⟩) kn kn]) (by simp [results, Try.results20, go_sem]) rfl ⟨rfl, ?_, ?_⟩
  · exact (((Below.refl _ _).alloc (Nat.le_refl _) _).alloc (by simp) _).alloc (by simp; omega) _
  · by_cases h0 : kn = 0
    · exact .inl h0
    · refine .inr ⟨w.heap.size + 1 + 1, 0, xs, by omega, rfl, hxl, fun j x hx => ?_⟩
      rw [cell_of_row _ _ _ Y 5 (0, 0) (heap3 _ _ _ _)]
      have := HY.out
      rw [← Array.getElem?_toList, this, List.getElem?_map, Nat.zero_add, hx]
      rfl

/-- cloneKeyOp: the same id; a key of its own that can be read. -/
theorem cloneKeyOp_any (o : KOp) (w : World) (hn : o.kn ≤ 140737488355328) {B : Nat} (hb : BytesAt B w o.kp o.kn) :
    Calls Try.prog 20 #[.agg #[.string o.a, .string o.b, .string o.c, .string o.d, .string o.e, .string o.f, .slice o.kp o.kn o.kc]] w
      fun e w' => ∃ p c, e = .returned (.agg #[.string o.a, .string o.b, .string o.c, .string o.d, .string o.e, .string o.f, .slice p o.kn c]) ∧ Below w.heap.size w w' ∧ BytesAt w.heap.size w' p o.kn := by
  cases hk : o.kp with
  | none =>
    have h := cloneKeyOp_nil o w hk
    rw [hk] at h
    refine h.mono ?_
    rintro e w' ⟨rfl, hB⟩
    refine ⟨none, o.kc, rfl, hB, .inl ?_⟩
    rcases hb with h0 | ⟨_, _, _, _, hp, _⟩
    · exact h0
    · rw [hk] at hp; cases hp
  | some ad =>
    have h := cloneKeyOp_some o ad w hk hn hb
    rw [hk] at h
    refine h.mono ?_
    rintro e w' ⟨rfl, hB, hb'⟩
    exact ⟨_, _, rfl, hB, hb'⟩

end Go.Proofs.Qxb6616163a
