/-
  Seat b6616163a: cloneKeyOps: a slice of its own, the same ids, keys of its own.
-/
import Derived.Test.Qxb6616163aSize
import Derived.Deep.MidRow
import Derived.Lib.SlBuf
namespace Go.Proofs.Qxb6616163a
open Go.RowKit

def KOp.cells (o : KOp) : List Value := [.string o.a, .string o.b, .string o.c, .string o.d, .string o.e, .string o.f, .slice o.kp o.kn o.kc]
def idsOf (o : KOp) : List (List UInt8) := [o.a.toList, o.b.toList, o.c.toList, o.d.toList, o.e.toList, o.f.toList]

theorem cellsAt_of_range {w : World} {b off : Nat} {o : KOp} (h : w.rangeAt b off o.cells) : CellsAt w b off o :=
  ⟨h 0 _ rfl, h 1 _ rfl, h 2 _ rfl, h 3 _ rfl, h 4 _ rfl, h 5 _ rfl, h 6 _ rfl⟩

/-- What has been cloned so far: k KeyOps in block g, ids as in L, keys that can be read and lie behind block g. -/
def ClonedTo (w : World) (g : Nat) (L L' : List KOp) (k : Nat) : Prop :=
  L'.length = k ∧ L'.map idsOf = (L.take k).map idsOf ∧ ∀ i o, L'[i]? = some o → w.rangeAt g (i * 7) o.cells ∧ BytesAt (g + 1) w o.kp o.kn ∧ o.kn ≤ 140737488355328

theorem info29 : (Try.prog.info? 29).map (fun i => (i.zero, i.size, i.bytes)) = some (some (.agg #[.string ⟨#[]⟩, .string ⟨#[]⟩, .string ⟨#[]⟩, .string ⟨#[]⟩, .string ⟨#[]⟩, .string ⟨#[]⟩, .slice none 0 0]), 7, 120) := by kernel_rfl
theorem size29 : (Try.prog.info? 29).map (·.size) = some 7 := by kernel_rfl

theorem there_alloc_new (w : World) (M : Array Value) (t : TypeId) (n : Nat) (h : M.size = n) : (w.alloc (.cells M t)).there w.heap.size 0 n := fun j hj => by
  constructor
  · rw [Nat.zero_add, cell_of_row _ _ _ M t (0, 0) (heap_alloc_new w _)]
    rw [Array.getElem?_eq_getElem (by omega)]; rfl
  · have e := heap_alloc_new w (.cells M t)
    unfold World.frozen?
    rw [e]
    simp

theorem there_sub {w : World} {g n : Nat} (h : w.there g 0 n) (o m : Nat) (ho : o + m ≤ n) : w.there g o m := fun j hj => by
  have := h (o + j) (by omega)
  simpa using this
theorem there_below {w w' : World} {g o n : Nat} (h : w.there g o n) {B : Nat} (hb : Below B w w') (hg : g < B) : w'.there g o n := fun j hj => by
  rw [hb.cell (p := ⟨g, o + j, none⟩) hg, hb.frozen (p := ⟨g, o + j, none⟩) hg]
  exact h j hj
theorem range_below {w w' : World} {g o : Nat} {cs : List Value} (h : w.rangeAt g o cs) {B : Nat} (hb : Below B w w') (hg : g < B) : w'.rangeAt g o cs := fun j v hv => by
  rw [hb.cell (p := ⟨g, o + j, none⟩) hg]
  exact h j v hv

theorem bytes_setCells {B g : Nat} {w : World} {p : Option Addr} {n : Nat} (h : BytesAt B w p n) (hg : g < B) (o : Nat) (vs : List Value) : BytesAt B (w.setCells g o vs) p n := by
  rcases h with rfl | ⟨b, off, xs, hBb, rfl, hl, h⟩
  · exact .inl rfl
  · refine .inr ⟨b, off, xs, hBb, rfl, hl, fun j x hx => ?_⟩
    rw [World.cell?_setCells_out g vs o w ⟨b, off + j, none⟩ (fun hb _ => by simp at hb; omega)]
    exact h j x hx

theorem cloned_step (wr w1 : World) (g : Nat) (L L' : List KOp) (k : Nat) (p : KOp) (q : Option Addr) (cq : Nat) (hC : ClonedTo wr g L L' k) (hB : Below wr.heap.size wr w1) (hg : g < wr.heap.size)
    (hth : w1.there g (k * 7) 7) (hby : BytesAt wr.heap.size w1 q p.kn) (hp : L[k]? = some p) (hpn : p.kn ≤ 140737488355328) :
    ClonedTo (w1.setCells g (k * 7) (KOp.cells ⟨p.a, p.b, p.c, p.d, p.e, p.f, q, p.kn, cq⟩)) g L (L' ++ [⟨p.a, p.b, p.c, p.d, p.e, p.f, q, p.kn, cq⟩]) (k + 1) := by
  obtain ⟨hl, hm, hc⟩ := hC
  refine ⟨by simp [hl], ?_, ?_⟩
  · rw [List.map_append, hm, List.take_add_one, hp, List.map_append]
    rfl
  · intro i o ho
    by_cases hi : i < k
    · rw [List.getElem?_append_left (by omega)] at ho
      obtain ⟨h1, h2, h3⟩ := hc i o ho
      refine ⟨?_, ?_, h3⟩
      · refine World.rangeAt_setCells_apart (range_below h1 hB hg) _ _ _ (.inr (.inl ?_))
        show i * 7 + 7 ≤ k * 7
        omega
      · exact bytes_setCells (h2.below hB) (Nat.lt_succ_self _) _ _
    · rw [List.getElem?_append_right (by omega)] at ho
      have hik : i - L'.length = 0 := by
        have := (List.getElem?_eq_some_iff.1 ho).1
        simp at this; omega
      rw [hik] at ho
      simp at ho
      subst ho
      obtain rfl : i = k := by omega
      refine ⟨World.rangeAt_setCells_same w1 g (i * 7) _ hth, ?_, hpn⟩
      refine bytes_setCells ?_ (Nat.lt_succ_self _) _ _
      rcases hby with h0 | ⟨b, off, xs, hBb, h⟩
      · exact .inl h0
      · exact .inr ⟨b, off, xs, by omega, h⟩

theorem setCells7 (w : World) (g o : Nat) (a b c d e f : ByteArray) (q : Option Addr) (n m : Nat) : w.setCells g o (KOp.cells ⟨a, b, c, d, e, f, q, n, m⟩) =
    ((((((w.setCell ⟨g, o, none⟩ (.string a)).setCell ⟨g, o + 1, none⟩ (.string b)).setCell ⟨g, o + 2, none⟩ (.string c)).setCell ⟨g, o + 3, none⟩ (.string d)).setCell ⟨g, o + 4, none⟩ (.string e)).setCell ⟨g, o + 5, none⟩ (.string f)).setCell ⟨g, o + 6, none⟩ (.slice q n m) := rfl

theorem cloneKeyOps_nil (n c : Nat) (w : World) : Calls Try.prog 7 #[.slice none n c] w fun e w' => e = .returned (.slice none 0 0) ∧ w' = w := by
  have kc := fun (wx : World) (n c : Nat) => Lib.run_eql_slice_nil (P := Try.prog) wx 22 29 none n c 0 0 Try.underlying22
  go_enter Try.func7, Try.ntmps7
  go_wp2
  go_ret
  exact ⟨rfl, rfl⟩

set_option maxHeartbeats 2000000 in
theorem cloneKeyOps_some (ad : Addr) (n c : Nat) (L : List KOp) (w : World) (hn : n ≤ 4096) (h : SliceOps w (some ad) n L) (hk : ∀ o ∈ L, o.kn ≤ 140737488355328 ∧ BytesAt 0 w o.kp o.kn) :
    Calls Try.prog 7 #[.slice (some ad) n c] w fun e w' => ∃ L', e = .returned (.slice (some ⟨w.heap.size, 0, none⟩) n n) ∧ Below w.heap.size w w' ∧ ClonedTo w' w.heap.size L L' n := by
  have kcx := fun (wx : World) (a : Addr) (n c : Nat) => Lib.run_eql_slice_nil (P := Try.prog) wx 22 29 (some a) n c 0 0 Try.underlying22
  obtain ⟨i0, hi, hz0, hz1, hz2⟩ := info_parts info29
  obtain ⟨M, hM⟩ : ∃ M, M = madeCells (Value.agg #[.string ⟨#[]⟩, .string ⟨#[]⟩, .string ⟨#[]⟩, .string ⟨#[]⟩, .string ⟨#[]⟩, .string ⟨#[]⟩, .slice none 0 0]).cells (((n : Nat) : Int).toNat * i0.size) := ⟨_, rfl⟩
  have hMs : M.size = n * 7 := by rw [hM, size_madeCells, hz1]; simp
  have hmk : ∀ W : World, (Instr.makeSlice 22 (.int .i64 (n : Int)) (.int .i64 (n : Int))).run Try.prog W = .ok (.slice (some ⟨W.heap.size, 0, none⟩) n n) (W.alloc (.cells M 29)) := fun W => by
    have h := run_make (P := Try.prog) W 22 29 i0 (.agg #[.string ⟨#[]⟩, .string ⟨#[]⟩, .string ⟨#[]⟩, .string ⟨#[]⟩, .string ⟨#[]⟩, .string ⟨#[]⟩, .slice none 0 0]) Try.underlying22 hi hz0 .i64 .i64 (n : Int) (n : Int) (by omega) (by omega) (by rw [hz2]; omega) (by omega)
    rw [← hM] at h
    simpa using h
  clear hM hi hz0 hz1 hz2
  have HS : Hid (SliceOps w (some ad) n L) := h
  have HK : Hid (∀ o ∈ L, o.kn ≤ 140737488355328 ∧ BytesAt 0 w o.kp o.kn) := hk
  clear h hk
  go_enter Try.func7, Try.ntmps7
  go_wp2
  go_loopw [12] (fun i wr => ∃ (k : Nat) (L' : List KOp), k ≤ n ∧ i = .int .i64 k ∧ Hid (ClonedTo wr w.heap.size L L' k) ∧ Below w.heap.size w wr ∧ w.heap.size < wr.heap.size ∧ Hid (wr.there w.heap.size 0 (n * 7))) (fun i _ => n - (intOf i).toNat)
  case atStart => exact ⟨0, [], Nat.zero_le _, rfl, ⟨rfl, by simp, fun i o h => by simp at h⟩, (Below.refl _ _).alloc (Nat.le_refl _) _, by simp, there_alloc_new w M 29 (n * 7) hMs⟩
  case round =>
    obtain ⟨k, L', hk, rfl, HC, hB, hg, HT⟩ := hrel
    by_cases hlt : k < n
    · have HB : Hid (Below w.heap.size w wr) := hB
      have hLn := HS.out.1
      obtain ⟨p, hp⟩ : ∃ p, L[k]? = some p := ⟨L[k]'(by omega), List.getElem?_eq_getElem _⟩
      obtain ⟨b, off, hpe, ho⟩ := HS.out.2.resolve_left (by omega)
      have HLn : Hid (L.length = n) := hLn
      clear hLn
      injection hpe with hpe
      subst hpe
      obtain ⟨c0, c1, c2, c3, c4, c5, c6⟩ := (ho k p hp).below hB (ho k p hp).lt
      have hpk := HK.out p (List.mem_of_getElem? hp)
      have HPK : Hid (BytesAt 0 wr p.kp p.kn) := hpk.2.below hB
      have hpn := hpk.1
      clear ho hpk hB
      have hk0 : (0 : Int) ≤ (k : Int) := by omega
      have hkn : (k : Int) < (n : Int) := by omega
      go_wp2_with fail
      refine (cloneKeyOp_any p wr hpn HPK.out).mono ?_
      rintro e w1 ⟨q, cq, rfl, hb1, hby⟩
      have HB1 : Hid (Below wr.heap.size wr w1) := hb1
      have HBY : Hid (BytesAt wr.heap.size w1 q p.kn) := hby
      have hg1 : w.heap.size < w1.heap.size := Nat.lt_of_lt_of_le hg hb1.size
      clear hb1 hby c0 c1 c2 c3 c4 c5 c6
      have hth : w1.there w.heap.size (k * 7) 7 := there_sub (there_below HT.out HB1.out hg) (k * 7) 7 (by omega)
      have HTH : Hid (w1.there w.heap.size (k * 7) 7) := hth
      obtain ⟨v0, e0⟩ := Option.isSome_iff_exists.1 (hth 0 (by omega)).1
      obtain ⟨v1, e1⟩ := Option.isSome_iff_exists.1 (hth 1 (by omega)).1
      obtain ⟨v2, e2⟩ := Option.isSome_iff_exists.1 (hth 2 (by omega)).1
      obtain ⟨v3, e3⟩ := Option.isSome_iff_exists.1 (hth 3 (by omega)).1
      obtain ⟨v4, e4⟩ := Option.isSome_iff_exists.1 (hth 4 (by omega)).1
      obtain ⟨v5, e5⟩ := Option.isSome_iff_exists.1 (hth 5 (by omega)).1
      obtain ⟨v6, e6⟩ := Option.isSome_iff_exists.1 (hth 6 (by omega)).1
      have f0 := (hth 0 (by omega)).2
      have f1 := (hth 1 (by omega)).2
      have f2 := (hth 2 (by omega)).2
      have f3 := (hth 3 (by omega)).2
      have f4 := (hth 4 (by omega)).2
      have f5 := (hth 5 (by omega)).2
      have f6 := (hth 6 (by omega)).2
      simp only [Nat.add_zero] at e0 f0
      clear hth
      go_wp2_with fail
      go_roundw
      case rel =>
        have A1 := cloned_step wr w1 w.heap.size L L' k p q cq HC.out HB1.out hg HTH.out HBY.out hp hpn
        have A2 := Lib.below_setCells w.heap.size (Nat.le_refl _) (KOp.cells ⟨p.a, p.b, p.c, p.d, p.e, p.f, q, p.kn, cq⟩) (k * 7) (HB.out.trans (HB1.out.mono (Nat.le_of_lt hg)))
        have A4 := World.there_setCells (there_below HT.out HB1.out hg) w.heap.size (k * 7) (KOp.cells ⟨p.a, p.b, p.c, p.d, p.e, p.f, q, p.kn, cq⟩)
        rw [setCells7] at A1 A2 A4
        exact ⟨k + 1, L' ++ [KOp.mk p.a p.b p.c p.d p.e p.f q p.kn cq], by omega, by go_num, A1, A2, by simpa using hg1, A4⟩
      case measure => simp [intOf]; omega
    · obtain rfl : k = n := by omega
      have HB : Hid (Below w.heap.size w wr) := hB
      clear hB
      go_wp2
      go_ret
      exact ⟨L', rfl, HB.out, HC.out⟩

/-- A slice of KeyOps in a block from B on. -/
def SliceFrom (B : Nat) (w : World) (p : Option Addr) (n : Nat) (L : List KOp) : Prop := L.length = n ∧ (n = 0 ∨ ∃ b off, B ≤ b ∧ p = some ⟨b, off, none⟩ ∧ OpsAt w b off L)
theorem SliceFrom.ops {B : Nat} {w : World} {p : Option Addr} {n : Nat} {L : List KOp} (h : SliceFrom B w p n L) : SliceOps w p n L :=
  ⟨h.1, h.2.imp id (fun ⟨b, off, _, h1, h2⟩ => ⟨b, off, h1, h2⟩)⟩
theorem SliceFrom.below {B : Nat} {w w' : World} {p : Option Addr} {n : Nat} {L : List KOp} (h : SliceFrom B w p n L) (hb : Below w.heap.size w w') : SliceFrom B w' p n L := by
  obtain ⟨hL, h⟩ := h
  refine ⟨hL, ?_⟩
  by_cases h0 : n = 0
  · exact .inl h0
  · obtain ⟨b, off, hB, rfl, ho⟩ := h.resolve_left h0
    exact .inr ⟨b, off, hB, rfl, ho.below hb (ho.lt (by omega))⟩
theorem SliceFrom.setCells {B g : Nat} {w : World} {p : Option Addr} {n : Nat} {L : List KOp} (h : SliceFrom B w p n L) (hg : g < B) (o : Nat) (vs : List Value) : SliceFrom B (w.setCells g o vs) p n L := by
  refine ⟨h.1, h.2.imp id (fun ⟨b, off, hB, h1, h2⟩ => ⟨b, off, hB, h1, fun i q hq => ?_⟩)⟩
  have e : ∀ j, (w.setCells g o vs).cell? ⟨b, j, none⟩ = w.cell? ⟨b, j, none⟩ := fun j => World.cell?_setCells_out g vs o w ⟨b, j, none⟩ (fun hb _ => by simp at hb; omega)
  obtain ⟨c0, c1, c2, c3, c4, c5, c6⟩ := h2 i q hq
  exact ⟨by rw [e]; exact c0, by rw [e]; exact c1, by rw [e]; exact c2, by rw [e]; exact c3, by rw [e]; exact c4, by rw [e]; exact c5, by rw [e]; exact c6⟩

/-- cloneKeyOps: a slice that reads as L', the same ids, keys that can be read; of what was there nothing has turned. -/
theorem cloneKeyOps_any (p : Option Addr) (n c : Nat) (L : List KOp) (w : World) (hn : n ≤ 4096) (h : SliceOps w p n L) (hk : ∀ o ∈ L, o.kn ≤ 140737488355328 ∧ BytesAt 0 w o.kp o.kn) :
    Calls Try.prog 7 #[.slice p n c] w fun e w' => ∃ p' c' L', e = .returned (.slice p' n c') ∧ Below w.heap.size w w' ∧ SliceFrom w.heap.size w' p' n L' ∧ L'.map idsOf = L.map idsOf ∧ (∀ o ∈ L', o.kn ≤ 140737488355328 ∧ BytesAt w.heap.size w' o.kp o.kn) := by
  cases p with
  | none =>
    obtain ⟨hL, h0⟩ := h
    have hz : n = 0 := by
      rcases h0 with h0 | ⟨_, _, h0, _⟩
      · exact h0
      · cases h0
    subst hz
    obtain rfl : L = [] := List.eq_nil_of_length_eq_zero hL
    refine (cloneKeyOps_nil 0 c w).mono ?_
    rintro e w' ⟨rfl, rfl⟩
    exact ⟨none, 0, [], rfl, Below.refl _ _, ⟨rfl, .inl rfl⟩, rfl, fun o ho => by cases ho⟩
  | some ad =>
    have hL := h.1
    refine (cloneKeyOps_some ad n c L w hn h hk).mono ?_
    rintro e w' ⟨L', rfl, hB, hl, hm, hc⟩
    refine ⟨_, _, L', rfl, hB, ⟨hl, .inr ⟨w.heap.size, 0, Nat.le_refl _, rfl, fun i o ho => ?_⟩⟩, ?_, fun o ho => ?_⟩
    · rw [Nat.zero_add]; exact cellsAt_of_range (hc i o ho).1
    · rw [hm, List.take_of_length_le (by omega)]
    · obtain ⟨i, hi, rfl⟩ := List.getElem_of_mem ho
      obtain ⟨_, h2, h3⟩ := hc i _ (List.getElem?_eq_getElem hi)
      refine ⟨h3, ?_⟩
      rcases h2 with h0 | ⟨b, off, xs, hb, h⟩
      · exact .inl h0
      · exact .inr ⟨b, off, xs, by omega, h⟩

end Go.Proofs.Qxb6616163a
