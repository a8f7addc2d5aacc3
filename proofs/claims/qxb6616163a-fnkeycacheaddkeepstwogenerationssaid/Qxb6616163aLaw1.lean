/-
  Seat b6616163a: THE LAW's WALK: FnKeyCacheKeepsKeyThrough512Adds returns true at every input.
-/
import Derived.Test.Qxb6616163aPlain1
import Derived.Test.Qxb6616163aSizeB
namespace Go.Proofs.Qxb6616163a
open Go.RowKit Go.Maps

/-- An op that Go can hold: strings and key within the reach; the key's bytes can be read. -/
def OpOk (w : World) (o : KOp) : Prop := IdFit o ∧ o.kn ≤ 140737488355328 ∧ BytesAt 0 w o.kp o.kn

theorem keyOpBytes_below (t : Int) (o : KOp) (w : World) (h0 : 0 ≤ t) (h1 : t ≤ 2097152) :
    Calls Try.prog 18 #[.int .i64 t, .agg #[.string o.a, .string o.b, .string o.c, .string o.d, .string o.e, .string o.f, .slice o.kp o.kn o.kc]] w
      fun e w' => (∃ r : Int, e = .returned (.int .i64 r) ∧ 0 ≤ r ∧ r ≤ 2097152) ∧ Below w.heap.size w w' := by
  refine (keyOpBytes_any t o w h0 h1).mono ?_
  rintro e w' ⟨h, rfl⟩
  exact ⟨h, (Below.refl _ _).alloc (Nat.le_refl _) _⟩

theorem bytes_zero {B : Nat} {w : World} {p : Option Addr} {n : Nat} (h : BytesAt B w p n) : BytesAt 0 w p n := by
  rcases h with h0 | ⟨b, off, xs, _, h⟩
  · exact .inl h0
  · exact .inr ⟨b, off, xs, Nat.zero_le _, h⟩

attribute [local go_sem ↓] Go.wp_at_zero Go.wp_at_succ

theorem cells_keep {W wx w1 : World} {Bx : Nat} (hBx : Bx < W.heap.size) (H : Hid (Below W.heap.size W wx)) (hb : Below wx.heap.size wx w1) :
    (∀ j, w1.cell? ⟨Bx, j, none⟩ = wx.cell? ⟨Bx, j, none⟩) ∧ Hid (Below W.heap.size W w1) := by
  have hlt : Bx < wx.heap.size := Nat.lt_of_lt_of_le hBx H.out.size
  exact ⟨fun j => hb.cell (p := ⟨Bx, j, none⟩) hlt, H.out.trans (hb.mono H.out.size)⟩

set_option maxHeartbeats 8000000 in
set_option maxRecDepth 100000 in
theorem law1 (p1 p2 : Option Addr) (n1 n2 c1 c2 : Nat) (L1 L2 : List KOp) (x : KOp) (w : World) (hn1 : n1 ≤ maxLen) (hn2 : n2 ≤ maxLen) (h1 : SliceOps w p1 n1 L1) (h2 : SliceOps w p2 n2 L2)
    (ok1 : ∀ o ∈ L1, OpOk w o) (ok2 : ∀ o ∈ L2, OpOk w o) (okx : OpOk w x) :
    Calls Try.prog 4 #[.slice p1 n1 c1, .agg #[.string x.a, .string x.b, .string x.c, .string x.d, .string x.e, .string x.f, .slice x.kp x.kn x.kc], .slice p2 n2 c2] w fun e w' => e = .returned (.bool true) ∧ Below w.heap.size w w' := by
  have hm1 := hn1
  have hm2 := hn2
  unfold maxLen at hn1 hn2
  have HS1 : Hid (SliceOps w p1 n1 L1) := h1
  have HS2 : Hid (SliceOps w p2 n2 L2) := h2
  have OK1 : Hid (∀ o ∈ L1, OpOk w o) := ok1
  have OK2 : Hid (∀ o ∈ L2, OpOk w o) := ok2
  have OKX : Hid (OpOk w x) := okx
  clear h1 h2 ok1 ok2 okx
  go_enter Try.func4, Try.ntmps4
  go_wp2_with fail
  generalize hW : w.alloc (Obj.cells #[Value.string x.a, Value.string x.b, Value.string x.c, Value.string x.d, Value.string x.e, Value.string x.f, Value.slice x.kp x.kn x.kc] 29) = W
  have hB0 : Below w.heap.size w W := by rw [← hW]; exact (Below.refl _ _).alloc (Nat.le_refl _) _
  have HB0 : Hid (Below w.heap.size w W) := hB0
  have HX0 : Hid (CellsAt W w.heap.size 0 x) := by rw [← hW]; exact ⟨by simp, by simp, by simp, by simp, by simp, by simp, by simp⟩
  have hBx : w.heap.size < W.heap.size := by rw [← hW]; simp
  have HT0 : Hid (W.there w.heap.size 0 7) := by rw [← hW]; exact there_alloc_new w _ 29 7 rfl
  refine (zzB_any p1 p2 n1 n2 c1 c2 L1 L2 x W hm1 hm2 (HS1.out.below hB0) (HS2.out.below hB0)).mono ?_
  rintro e wa ⟨⟨r, rfl⟩, hba⟩
  have HBA : Hid (Below W.heap.size W wa) := hba
  clear hB0 hba hW
  cases r with
  | false =>
    go_wp2
    go_ret
    exact ⟨rfl, HB0.out.trans (HBA.out.mono (Nat.le_of_lt hBx))⟩
  | true =>
    by_cases g1 : 4096 < n1
    · go_wp2
      go_ret
      exact ⟨rfl, HB0.out.trans (HBA.out.mono (Nat.le_of_lt hBx))⟩
    by_cases g2 : 4096 < n2
    · go_wp2
      go_ret
      exact ⟨rfl, HB0.out.trans (HBA.out.mono (Nat.le_of_lt hBx))⟩
    obtain ⟨x0, x1, x2, x3, x4, x5, x6⟩ := HX0.out.below HBA.out hBx
    simp only [Nat.zero_add] at x0 x1 x2 x3 x4 x5 x6
    have HSA1 : Hid (SliceOps wa p1 n1 L1) := (HS1.out.below HB0.out).below HBA.out
    have HSA2 : Hid (SliceOps wa p2 n2 L2) := (HS2.out.below HB0.out).below HBA.out
    have hBxa : w.heap.size < wa.heap.size := Nat.lt_of_lt_of_le hBx HBA.out.size
    go_wp2
    go_region_held3 (fun w' => w'.cell? ⟨w.heap.size, 0, none⟩ = some (.string x.a) ∧ w'.cell? ⟨w.heap.size, 1, none⟩ = some (.string x.b) ∧ w'.cell? ⟨w.heap.size, 2, none⟩ = some (.string x.c) ∧ w'.cell? ⟨w.heap.size, 3, none⟩ = some (.string x.d) ∧ w'.cell? ⟨w.heap.size, 4, none⟩ = some (.string x.e) ∧ w'.cell? ⟨w.heap.size, 5, none⟩ = some (.string x.f) ∧ w'.cell? ⟨w.heap.size, 6, none⟩ = some (.slice x.kp x.kn x.kc) ∧ Hid (Below wa.heap.size wa w'))
      (first
        | exact ⟨by simpa using x0, by simpa using x1, by simpa using x2, by simpa using x3, by simpa using x4, by simpa using x5, by simpa using x6, (Below.refl _ wa).drew⟩
        | (go_split_ands
           obtain ⟨k1, k2⟩ := cells_keep hBxa (by assumption) hbx
           exact ⟨by rw [k1]; assumption, by rw [k1]; assumption, by rw [k1]; assumption, by rw [k1]; assumption, by rw [k1]; assumption, by rw [k1]; assumption, by rw [k1]; assumption, k2⟩))
      (first
        | (go_at_call_of 6 (Value.slice p1 n1 c1); go_split_ands; refine (keyOpsBytes_any 0 p1 n1 c1 L1 _ (by omega) (by omega) hm1 (HSA1.out.below (Hid.out (by assumption)))).mono ?_; rintro e wx ⟨⟨r, rfl, hr0, hr1⟩, hbx⟩)
        | (go_at_call 18; go_split_ands; refine (keyOpBytes_below _ x _ hr0 hr1).mono ?_; rintro e wx ⟨⟨r, rfl, hr0, hr1⟩, hbx⟩)
        | (go_at_call_of 6 (Value.slice p2 n2 c2); go_split_ands; refine (keyOpsBytes_any _ p2 n2 c2 L2 _ hr0 hr1 hm2 (HSA2.out.below (Hid.out (by assumption)))).mono ?_; rintro e wx ⟨⟨r, rfl, hr0, hr1⟩, hbx⟩))
    rename_i hH
    obtain ⟨-, -, -, -, -, -, -, HBX⟩ := hH
    have HBB : Hid (Below w.heap.size w wx) := (HB0.out.trans (HBA.out.mono (Nat.le_of_lt hBx))).trans (HBX.out.mono (Nat.le_of_lt hBxa))
    have HXB : Hid (CellsAt wx w.heap.size 0 x) := (HX0.out.below HBA.out hBx).below HBX.out hBxa
    have HTB : Hid (wx.there w.heap.size 0 7) := there_below (there_below HT0.out HBA.out hBx) HBX.out hBxa
    have hBxb : w.heap.size < wx.heap.size := Nat.lt_of_lt_of_le hBxa HBX.out.size
    clear x0 x1 x2 x3 x4 x5 x6 HBX hbx HBA HB0 HX0 HT0 HSA1 HSA2 hBxa hBx hr0 hr1
    go_wp2
    · go_ret
      exact ⟨rfl, HBB.out⟩
    go_loopw [7, 39] (fun l i wr => ∃ k : Nat, k ≤ n2 ∧ i = .int .i64 k ∧ l = .int .i64 (lastX L2 x k) ∧ Hid (Below w.heap.size w wr) ∧ Hid (CellsAt wr w.heap.size 0 x) ∧ Hid (wr.there w.heap.size 0 7) ∧ w.heap.size < wr.heap.size) (fun _ i _ => n2 - (intOf i).toNat)
    case atStart => exact ⟨0, Nat.zero_le _, rfl, rfl, HBB, HXB, HTB, hBxb⟩
    case round =>
      clear HBB HXB HTB hBxb
      obtain ⟨k, hk, rfl, rfl, HB, HX, HT, hBx⟩ := hrel
      have hlb := lastX_bd L2 x k
      by_cases hlt : k < n2
      · obtain ⟨p, hp⟩ : ∃ p, L2[k]? = some p := ⟨L2[k]'(by rw [HS2.out.1]; exact hlt), List.getElem?_eq_getElem _⟩
        obtain ⟨b, off, hpe, ho⟩ := HS2.out.2.resolve_left (by omega)
        subst hpe
        obtain ⟨c0, c1, c2, c3, c4, c5, c6⟩ := (ho k p hp).below HB.out (ho k p hp).lt
        obtain ⟨x0, x1, x2, x3, x4, x5, x6⟩ := HX.out
        simp only [Nat.zero_add] at x0 x1 x2 x3 x4 x5 x6
        clear ho
        have hk0 : (0 : Int) ≤ (k : Int) := by omega
        have hkn : (k : Int) < (n2 : Int) := by omega
        go_wp2
        go_region_held3 (fun w' => w'.cell? ⟨b, off + k * 7, none⟩ = some (.string p.a) ∧ w'.cell? ⟨b, off + k * 7 + 1, none⟩ = some (.string p.b) ∧ w'.cell? ⟨b, off + k * 7 + 2, none⟩ = some (.string p.c) ∧ w'.cell? ⟨b, off + k * 7 + 3, none⟩ = some (.string p.d) ∧ w'.cell? ⟨b, off + k * 7 + 4, none⟩ = some (.string p.e) ∧ w'.cell? ⟨b, off + k * 7 + 5, none⟩ = some (.string p.f) ∧ w'.cell? ⟨b, off + k * 7 + 6, none⟩ = some (.slice p.kp p.kn p.kc) ∧ w'.cell? ⟨w.heap.size, 0, none⟩ = some (.string x.a) ∧ w'.cell? ⟨w.heap.size, 1, none⟩ = some (.string x.b) ∧ w'.cell? ⟨w.heap.size, 2, none⟩ = some (.string x.c) ∧ w'.cell? ⟨w.heap.size, 3, none⟩ = some (.string x.d) ∧ w'.cell? ⟨w.heap.size, 4, none⟩ = some (.string x.e) ∧ w'.cell? ⟨w.heap.size, 5, none⟩ = some (.string x.f) ∧ w'.cell? ⟨w.heap.size, 6, none⟩ = some (.slice x.kp x.kn x.kc)) (go_keep)
          ((go_at_call 19; refine (same_any p x _).mono ?_; rintro e w' ⟨rfl, rfl⟩))
        have HX2 : ∀ o1 o2 : Obj, Hid (CellsAt ((wr.alloc o1).alloc o2).drew w.heap.size 0 x) := fun o1 o2 => HX.out.below (below_two (Below.refl _ _) (Nat.le_refl _) o1 o2) hBx
        have HT2 : ∀ o1 o2 : Obj, Hid (((wr.alloc o1).alloc o2).drew.there w.heap.size 0 7) := fun o1 o2 => there_below HT.out (below_two (Below.refl _ _) (Nat.le_refl _) o1 o2) hBx
        have HB2 : ∀ o1 o2 : Obj, Hid (Below w.heap.size w ((wr.alloc o1).alloc o2).drew) := fun o1 o2 => below_two HB.out HB.out.size o1 o2
        go_wp2
        · go_roundw
          case rel =>
            have hs : sameId p x = true := by assumption
            exact ⟨k + 1, by omega, by go_num, by rw [lastX_hit L2 x p k hp hs], HB2 _ _, HX2 _ _, HT2 _ _, by simp; omega⟩
          case measure => simp [intOf]; omega
        · go_roundw
          case rel =>
            have hs : sameId p x = false := by assumption
            exact ⟨k + 1, by omega, by go_num, by rw [lastX_miss L2 x p k hp hs], HB2 _ _, HX2 _ _, HT2 _ _, by simp; omega⟩
          case measure => simp [intOf]; omega
      · have hkn : k = n2 := by omega
        have HL : Hid (lastX L2 x n2 = lastX L2 x k) := show _ = _ by rw [hkn]
        have hlb' : lastX L2 x k < n2 := by omega
        have hlb0 : -1 ≤ lastX L2 x k := hlb.1
        generalize lastX L2 x k = l at HL hlb hlb' hlb0 ⊢
        clear hlb hkn
        by_cases g3 : 512 < (n2 : Int) - 1 - l
        · go_wp2
          go_ret
          exact ⟨rfl, HB.out⟩
        go_wp2_with fail
        refine (cloneKeyOps_any p1 n1 c1 L1 wr (by omega) (HS1.out.below HB.out) (fun o ho => ⟨(OK1.out o ho).2.1, (OK1.out o ho).2.2.below HB.out⟩)).mono ?_
        rintro e w2 ⟨q1, d1, M1, rfl, hb2, hs2, hid2, hk2⟩
        have HB2 : Hid (Below wr.heap.size wr w2) := hb2
        have HS2' : Hid (SliceFrom wr.heap.size w2 q1 n1 M1) := hs2
        have HI1 : Hid (M1.map idsOf = L1.map idsOf) := hid2
        have HK1 : Hid (∀ o ∈ M1, o.kn ≤ 140737488355328 ∧ BytesAt wr.heap.size w2 o.kp o.kn) := hk2
        clear hb2 hs2 hid2 hk2
        obtain ⟨x0, x1, x2, x3, x4, x5, x6⟩ := HX.out.below HB2.out hBx
        simp only [Nat.zero_add] at x0 x1 x2 x3 x4 x5 x6
        go_wp2_with fail
        refine (cloneKeyOp_any x w2 OKX.out.2.1 ((OKX.out.2.2.below HB.out).below HB2.out)).mono ?_
        rintro e w3 ⟨q, cq, rfl, hb3, hby3⟩
        have HB3 : Hid (Below w2.heap.size w2 w3) := hb3
        have HY3 : Hid (BytesAt w2.heap.size w3 q x.kn) := hby3
        have hBx2 : w.heap.size < w2.heap.size := Nat.lt_of_lt_of_le hBx HB2.out.size
        have hth : w3.there w.heap.size 0 7 := there_below (there_below HT.out HB2.out hBx) HB3.out hBx2
        have HTH : Hid (w3.there w.heap.size 0 7) := hth
        obtain ⟨v0, e0⟩ := Option.isSome_iff_exists.1 (hth 0 (by omega)).1
        obtain ⟨v1, e1⟩ := Option.isSome_iff_exists.1 (hth 1 (by omega)).1
        obtain ⟨v2, e2⟩ := Option.isSome_iff_exists.1 (hth 2 (by omega)).1
        obtain ⟨v3, e3⟩ := Option.isSome_iff_exists.1 (hth 3 (by omega)).1
        obtain ⟨v4, e4⟩ := Option.isSome_iff_exists.1 (hth 4 (by omega)).1
        obtain ⟨v5, e5⟩ := Option.isSome_iff_exists.1 (hth 5 (by omega)).1
        obtain ⟨v6, e6⟩ := Option.isSome_iff_exists.1 (hth 6 (by omega)).1
        have f0 := (hth 0 (by omega)).2
        have f1 := (hth 1 (by omega)).2
        have f2 := (hth 2 (by omega)).2
        have f3 := (hth 3 (by omega)).2
        have f4 := (hth 4 (by omega)).2
        have f5 := (hth 5 (by omega)).2
        have f6 := (hth 6 (by omega)).2
        simp only [Nat.zero_add] at e0 e1 e2 e3 e4 e5 e6 f0 f1 f2 f3 f4 f5 f6
        clear hth hb3 hby3 x0 x1 x2 x3 x4 x5 x6
        go_wp2_with fail
        generalize hw4 : ((((((w3.setCell ⟨w.heap.size, 0, none⟩ (Value.string x.a)).setCell ⟨w.heap.size, 1, none⟩ (Value.string x.b)).setCell ⟨w.heap.size, 2, none⟩ (Value.string x.c)).setCell ⟨w.heap.size, 3, none⟩ (Value.string x.d)).setCell ⟨w.heap.size, 4, none⟩ (Value.string x.e)).setCell ⟨w.heap.size, 5, none⟩ (Value.string x.f)).setCell ⟨w.heap.size, 6, none⟩ (Value.slice q x.kn cq) = w4
        obtain ⟨x', hx'⟩ : ∃ x' : KOp, x' = ⟨x.a, x.b, x.c, x.d, x.e, x.f, q, x.kn, cq⟩ := ⟨_, rfl⟩
        have E4 : Hid (w4 = w3.setCells w.heap.size 0 x'.cells) := show _ = _ by rw [← hw4, hx', setCells7]
        have EX : Hid (x' = ⟨x.a, x.b, x.c, x.d, x.e, x.f, q, x.kn, cq⟩) := hx'
        clear hw4 hx' e0 e1 e2 e3 e4 e5 e6 f0 f1 f2 f3 f4 f5 f6
        have hBx3 : w.heap.size < w3.heap.size := Nat.lt_of_lt_of_le hBx2 HB3.out.size
        have HB4 : Hid (Below w.heap.size w w4) := by
          rw [E4.out]
          exact Lib.below_setCells w.heap.size (Nat.le_refl _) _ 0 ((HB.out.trans (HB2.out.mono HB.out.size)).trans (HB3.out.mono (Nat.le_of_lt hBx2)))
        have HS4 : Hid (SliceFrom wr.heap.size w4 q1 n1 M1) := by
          rw [E4.out]
          exact (HS2'.out.below HB3.out).setCells hBx 0 _
        have HK4 : Hid (∀ o ∈ M1, o.kn ≤ 140737488355328 ∧ BytesAt wr.heap.size w4 o.kp o.kn) := by
          rw [E4.out]
          exact fun o ho => ⟨(HK1.out o ho).1, bytes_setCells ((HK1.out o ho).2.below HB3.out) hBx 0 _⟩
        have HX4 : Hid (CellsAt w4 w.heap.size 0 x') := by
          rw [E4.out]
          exact cellsAt_of_range (World.rangeAt_setCells_same w3 w.heap.size 0 x'.cells HTH.out)
        have HY4 : Hid (BytesAt w2.heap.size w4 x'.kp x'.kn) := by
          rw [E4.out, EX.out]
          exact bytes_setCells HY3.out hBx2 0 _
        have hBx4 : w.heap.size < w4.heap.size := HX4.out.lt
        clear E4 HS2' HK1 HTH HY3 HB3 hBx3 HB2 hBx2 HX HT hBx
        refine (cloneKeyOps_any p2 n2 c2 L2 w4 (by omega) (HS2.out.below HB4.out) (fun o ho => ⟨(OK2.out o ho).2.1, (OK2.out o ho).2.2.below HB4.out⟩)).mono ?_
        rintro e w5 ⟨q2, d2, M2, rfl, hb5, hs5, hid5, hk5⟩
        have HI2 : Hid (M2.map idsOf = L2.map idsOf) := hid5
        have HB5 : Hid (Below w.heap.size w w5) := HB4.out.trans (hb5.mono (Nat.le_of_lt hBx4))
        have HS51 : Hid (SliceOps w5 q1 n1 M1) := (HS4.out.below hb5).ops
        have HS52 : Hid (SliceOps w5 q2 n2 M2) := hs5.ops
        have HX5 : Hid (CellsAt w5 w.heap.size 0 x') := HX4.out.below hb5 hBx4
        have HK51 : Hid (∀ o ∈ M1, o.kn ≤ 140737488355328 ∧ BytesAt 0 w5 o.kp o.kn) := fun o ho => ⟨(HK4.out o ho).1, bytes_zero ((HK4.out o ho).2.below hb5)⟩
        have HK52 : Hid (∀ o ∈ M2, o.kn ≤ 140737488355328 ∧ BytesAt 0 w5 o.kp o.kn) := fun o ho => ⟨(hk5 o ho).1, bytes_zero (hk5 o ho).2⟩
        have HKX : Hid (BytesAt 0 w5 x'.kp x'.kn) := bytes_zero (HY4.out.below hb5)
        have hBx5 : w.heap.size < w5.heap.size := Nat.lt_of_lt_of_le hBx4 hb5.size
        clear hb5 hs5 hid5 hk5 HS4 HK4 HX4 HY4 HB4 hBx4
        have HIX : Hid (idsOf x' = idsOf x) := show _ = _ by rw [EX.out]; rfl
        have HFX : Hid (IdFit x') := idFit_of HIX.out OKX.out.1
        have HF1 : Hid (∀ o ∈ M1, IdFit o) := idFit_all HI1.out (fun o ho => (OK1.out o ho).1)
        have HF2 : Hid (∀ o ∈ M2, IdFit o) := idFit_all HI2.out (fun o ho => (OK2.out o ho).1)
        obtain ⟨x0, x1, x2, x3, x4, x5, x6⟩ := HX5.out
        simp only [Nat.zero_add] at x0 x1 x2 x3 x4 x5 x6
        by_cases g4 : 0 ≤ l
        · obtain ⟨m, hm⟩ := Int.eq_ofNat_of_zero_le g4
          subst hm
          obtain ⟨y, hy⟩ : ∃ y, M2[m]? = some y := ⟨M2[m]'(by rw [HS52.out.1]; omega), List.getElem?_eq_getElem _⟩
          obtain ⟨b2, off2, hpe, ho⟩ := HS52.out.2.resolve_left (by omega)
          subst hpe
          obtain ⟨c0, c1, c2, c3, c4, c5, c6⟩ := ho m y hy
          clear ho
          have hk0 : (0 : Int) ≤ (m : Int) := by omega
          have hkn : (m : Int) < (n2 : Int) := by omega
          have HKEEP : Hid (∃ j, Kept (kl x') (keyVal y) j (addAll D0 (M1 ++ [x'] ++ M2))) := (split_last M1 M2 L2 x x' n2 HS2.out.1 HI2.out HIX.out (by rw [HL.out]; omega) HF2.out HFX.out).2 m HL.out y hy
          have HKY : Hid (y.kn ≤ 140737488355328 ∧ BytesAt 0 w5 y.kp y.kn) := HK52.out y (List.mem_of_getElem? hy)
          go_wp2_with fail
          clear c0 c1 c2 c3 c4 c5 c6 x0 x1 x2 x3 x4 x5 x6
          refine (new_any w5).mono ?_
          rintro e w6 ⟨rfl, hw6⟩
          have HC6 : Hid (CacheAt w5.heap.size w6 w5.heap.size D0.1 D0.2) := by
            rw [hw6]
            exact ⟨Option.none, Option.none, Nat.le_refl _, heap_alloc_new w5 _, rfl, rfl, .inl rfl⟩
          have HB6 : Hid (Below w5.heap.size w5 w6) := by
            rw [hw6]
            exact (Below.refl _ _).alloc (Nat.le_refl _) _
          clear hw6
          go_wp2_with fail
          go_loopw [74] (fun i wr => ∃ k : Nat, k ≤ n1 ∧ i = .int .i64 k ∧ Hid (CacheAt w5.heap.size wr w5.heap.size (addAll D0 (M1.take k)).1 (addAll D0 (M1.take k)).2) ∧ Hid (Below w5.heap.size w5 wr)) (fun i _ => n1 - (intOf i).toNat)
          case atStart => exact ⟨0, Nat.zero_le _, rfl, HC6, HB6⟩
          case round =>
            clear HC6 HB6
            obtain ⟨k, hk, rfl, HC, HBB⟩ := hrel
            by_cases hlt : k < n1
            · obtain ⟨p, hp⟩ : ∃ p, M1[k]? = some p := ⟨M1[k]'(by rw [HS51.out.1]; exact hlt), List.getElem?_eq_getElem _⟩
              obtain ⟨b, off, hpe, ho⟩ := HS51.out.2.resolve_left (by omega)
              subst hpe
              obtain ⟨z0, z1, z2, z3, z4, z5, z6⟩ := (ho k p hp).below HBB.out (ho k p hp).lt
              clear ho
              have hk0 : (0 : Int) ≤ (k : Int) := by omega
              have hkn : (k : Int) < (n1 : Int) := by omega
              have hpf := HF1.out p (List.mem_of_getElem? hp)
              have HPF : Hid (IdFit p) := hpf
              clear hpf
              go_wp2_with fail
              refine (cacheAdd_any w5.heap.size w5.heap.size _ _ p wr HPF.out.1 HPF.out.2 HC.out).mono ?_
              rintro e w7 ⟨rfl, hc7, hb7⟩
              have HC7 : Hid (CacheAt w5.heap.size w7 w5.heap.size (addAll D0 (M1.take (k + 1))).1 (addAll D0 (M1.take (k + 1))).2) := by
                rw [List.take_add_one, hp]
                show CacheAt _ _ _ (addAll D0 (M1.take k ++ [p])).1 (addAll D0 (M1.take k ++ [p])).2
                rw [addAll_snoc]
                exact hc7
              have HB7 : Hid (Below w5.heap.size w5 w7) := HBB.out.trans hb7
              clear hc7 hb7 z0 z1 z2 z3 z4 z5 z6
              go_wp2_with fail
              go_roundw
              case rel => exact ⟨k + 1, by omega, by go_num, HC7, HB7⟩
              case measure => simp [intOf]; omega
            · have HC' : Hid (CacheAt w5.heap.size wr w5.heap.size (addAll D0 M1).1 (addAll D0 M1).2) := by
                have := HC.out
                rwa [List.take_of_length_le (by rw [HS51.out.1]; omega)] at this
              obtain ⟨z0, z1, z2, z3, z4, z5, z6⟩ := HX5.out.below HBB.out hBx5
              simp only [Nat.zero_add] at z0 z1 z2 z3 z4 z5 z6
              clear HC
              go_wp2_with fail
              refine (cacheAdd_any w5.heap.size w5.heap.size _ _ x' wr HFX.out.1 HFX.out.2 HC'.out).mono ?_
              rintro e w8 ⟨rfl, hc8, hb8⟩
              have HC8 : Hid (CacheAt w5.heap.size w8 w5.heap.size (addAll D0 (M1 ++ [x'] ++ M2.take 0)).1 (addAll D0 (M1 ++ [x'] ++ M2.take 0)).2) := by
                rw [List.take_zero, List.append_nil, addAll_snoc]
                exact hc8
              have HB8 : Hid (Below w5.heap.size w5 w8) := HBB.out.trans hb8
              clear hc8 hb8 z0 z1 z2 z3 z4 z5 z6 HC' HBB hk hlt
              go_wp2_with fail
              go_loopw [89] (fun i wr => ∃ k : Nat, k ≤ n2 ∧ i = .int .i64 k ∧ Hid (CacheAt w5.heap.size wr w5.heap.size (addAll D0 (M1 ++ [x'] ++ M2.take k)).1 (addAll D0 (M1 ++ [x'] ++ M2.take k)).2) ∧ Hid (Below w5.heap.size w5 wr)) (fun i _ => n2 - (intOf i).toNat)
              case atStart => exact ⟨0, Nat.zero_le _, rfl, HC8, HB8⟩
              case round =>
                clear HC8 HB8
                obtain ⟨k, hk, rfl, HC, HBB⟩ := hrel
                by_cases hlt : k < n2
                · obtain ⟨p, hp⟩ : ∃ p, M2[k]? = some p := ⟨M2[k]'(by rw [HS52.out.1]; exact hlt), List.getElem?_eq_getElem _⟩
                  obtain ⟨b, off, hpe, ho⟩ := HS52.out.2.resolve_left (by omega)
                  injection hpe with hpe; injection hpe with hpb hpo _; subst hpb; subst hpo
                  obtain ⟨z0, z1, z2, z3, z4, z5, z6⟩ := (ho k p hp).below HBB.out (ho k p hp).lt
                  clear ho
                  have hk0 : (0 : Int) ≤ (k : Int) := by omega
                  have hkn : (k : Int) < (n2 : Int) := by omega
                  have hpf := HF2.out p (List.mem_of_getElem? hp)
                  have HPF : Hid (IdFit p) := hpf
                  clear hpf
                  go_wp2_with fail
                  refine (cacheAdd_any w5.heap.size w5.heap.size _ _ p wr HPF.out.1 HPF.out.2 HC.out).mono ?_
                  rintro e w7 ⟨rfl, hc7, hb7⟩
                  have HC7 : Hid (CacheAt w5.heap.size w7 w5.heap.size (addAll D0 (M1 ++ [x'] ++ M2.take (k + 1))).1 (addAll D0 (M1 ++ [x'] ++ M2.take (k + 1))).2) := by
                    rw [List.take_add_one, hp, ← List.append_assoc]
                    show CacheAt _ _ _ (addAll D0 (M1 ++ [x'] ++ M2.take k ++ [p])).1 (addAll D0 (M1 ++ [x'] ++ M2.take k ++ [p])).2
                    rw [addAll_snoc]
                    exact hc7
                  have HB7 : Hid (Below w5.heap.size w5 w7) := HBB.out.trans hb7
                  clear hc7 hb7 z0 z1 z2 z3 z4 z5 z6
                  go_wp2_with fail
                  go_roundw
                  case rel => exact ⟨k + 1, by omega, by go_num, HC7, HB7⟩
                  case measure => simp [intOf]; omega
                · have HC' : Hid (CacheAt w5.heap.size wr w5.heap.size (addAll D0 (M1 ++ [x'] ++ M2)).1 (addAll D0 (M1 ++ [x'] ++ M2)).2) := by
                    have := HC.out
                    rwa [List.take_of_length_le (by rw [HS52.out.1]; omega)] at this
                  obtain ⟨z0, z1, z2, z3, z4, z5, z6⟩ := HX5.out.below HBB.out hBx5
                  simp only [Nat.zero_add] at z0 z1 z2 z3 z4 z5 z6
                  clear HC
                  obtain ⟨jj, hinv, hs1, hcase⟩ := HKEEP.out
                  generalize addAll D0 (M1 ++ [x'] ++ M2) = D at HC' hinv hs1 hcase
                  have s0 : (1 : Int) ≤ (Maps.size D.1 : Int) := by omega
                  have s1 : (Maps.size D.1 : Int) ≤ 512 := by have := hinv.2.2.1; omega
                  have s2 : (Maps.size D.2 : Int) ≤ 512 := by have := hinv.2.2.2; omega
                  clear hinv hs1
                  rcases hcase with ⟨hh, hat⟩ | ⟨hh, hh2, hat, _⟩
                  · have hcon := cacheRecent_any w5.heap.size w5.heap.size D.1 D.2 x' y.kp y.kn y.kc wr HFX.out.1 HC'.out (hat _)
                    rw [hh] at hcon
                    have HCON : Hid (Calls Try.prog 13 #[.pointer (some ⟨w5.heap.size, 0, none⟩), .agg #[.string x'.a, .string x'.b, .string x'.c, .string x'.d, .string x'.e, .string x'.f, .slice x'.kp x'.kn x'.kc]] wr fun e w' => e = .returned (.tuple #[.slice y.kp y.kn y.kc, .bool true]) ∧ Below wr.heap.size wr w') := hcon
                    clear hcon hh hat
                    go_wp2_with fail
                    refine HCON.out.mono ?_
                    rintro e wA ⟨rfl, hbA⟩
                    have HBA : Hid (Below wr.heap.size wr wA) := hbA
                    clear hbA
                    go_wp2_with fail
                    refine (lens_any w5.heap.size w5.heap.size D.1 D.2 wA (HC'.out.below HBA.out)).mono ?_
                    rintro e wB ⟨rfl, hbB⟩
                    have HBB2 : Hid (Below wA.heap.size wA wB) := hbB
                    clear hbB
                    go_wp2_with fail
                    refine (sameBytes_self y.kp y.kn y.kc wB (by have := HKY.out.1; unfold maxLen; omega) (((HKY.out.2.below HBB.out).below HBA.out).below HBB2.out)).mono ?_
                    rintro e wC ⟨rfl, hbC⟩
                    have HBF : Hid (Below w.heap.size w wC) := HB5.out.trans (HBB.out.mono (Nat.le_of_lt hBx5) |>.trans ((HBA.out.trans ((HBB2.out.trans (hbC.mono HBB2.out.size)).mono HBA.out.size)).mono (Nat.le_trans (Nat.le_of_lt hBx5) HBB.out.size)))
                    clear hbC
                    go_wp2
                    go_ret
                    exact ⟨ret_bool (by simp), HBF.out⟩
                  · have hcon := cacheRecent_any w5.heap.size w5.heap.size D.1 D.2 x' Option.none 0 0 wr HFX.out.1 HC'.out (atKey_of_not_has hh _)
                    rw [hh] at hcon
                    have HCON : Hid (Calls Try.prog 13 #[.pointer (some ⟨w5.heap.size, 0, none⟩), .agg #[.string x'.a, .string x'.b, .string x'.c, .string x'.d, .string x'.e, .string x'.f, .slice x'.kp x'.kn x'.kc]] wr fun e w' => e = .returned (.tuple #[.slice Option.none 0 0, .bool false]) ∧ Below wr.heap.size wr w') := hcon
                    have HH2 : Hid (Maps.has D.2 (kl x') = true) := hh2
                    have HAT : Hid (D.2.atKey (kl x') (.held zero62) = .held (.agg #[.slice y.kp y.kn y.kc, .nilIface])) := hat _
                    clear hcon hh hat hh2
                    go_wp2_with fail
                    refine HCON.out.mono ?_
                    rintro e wA ⟨rfl, hbA⟩
                    have HBA : Hid (Below wr.heap.size wr wA) := hbA
                    clear hbA z0 z1 z2 z3 z4 z5 z6
                    obtain ⟨z0, z1, z2, z3, z4, z5, z6⟩ := (HX5.out.below HBB.out hBx5).below HBA.out (Nat.lt_of_lt_of_le hBx5 HBB.out.size)
                    simp only [Nat.zero_add] at z0 z1 z2 z3 z4 z5 z6
                    have hcon := cacheOlder_any w5.heap.size w5.heap.size D.1 D.2 x' y.kp y.kn y.kc wA HFX.out.1 (HC'.out.below HBA.out) HAT.out
                    rw [HH2.out] at hcon
                    have HCO : Hid (Calls Try.prog 16 #[.pointer (some ⟨w5.heap.size, 0, none⟩), .agg #[.string x'.a, .string x'.b, .string x'.c, .string x'.d, .string x'.e, .string x'.f, .slice x'.kp x'.kn x'.kc]] wA fun e w' => e = .returned (.tuple #[.slice y.kp y.kn y.kc, .bool true]) ∧ Below wA.heap.size wA w') := hcon
                    clear hcon
                    go_wp2_with fail
                    refine HCO.out.mono ?_
                    rintro e wA2 ⟨rfl, hbA2⟩
                    have HBA2 : Hid (Below wA.heap.size wA wA2) := hbA2
                    clear hbA2
                    go_wp2_with fail
                    refine (lens_any w5.heap.size w5.heap.size D.1 D.2 wA2 ((HC'.out.below HBA.out).below HBA2.out)).mono ?_
                    rintro e wB ⟨rfl, hbB⟩
                    have HBB2 : Hid (Below wA2.heap.size wA2 wB) := hbB
                    clear hbB
                    go_wp2_with fail
                    refine (sameBytes_self y.kp y.kn y.kc wB (by have := HKY.out.1; unfold maxLen; omega) ((((HKY.out.2.below HBB.out).below HBA.out).below HBA2.out).below HBB2.out)).mono ?_
                    rintro e wC ⟨rfl, hbC⟩
                    have HBF : Hid (Below w.heap.size w wC) := by
                      have k1 : Below wr.heap.size wr wC := HBA.out.trans ((HBA2.out.trans ((HBB2.out.trans (hbC.mono HBB2.out.size)).mono HBA2.out.size)).mono HBA.out.size)
                      exact HB5.out.trans ((HBB.out.trans (k1.mono HBB.out.size)).mono (Nat.le_of_lt hBx5))
                    clear hbC
                    go_wp2
                    go_ret
                    exact ⟨ret_bool (by simp), HBF.out⟩
        · have HKEEP : Hid (∃ j, Kept (kl x') (keyVal x') j (addAll D0 (M1 ++ [x'] ++ M2))) := ⟨_, (split_last M1 M2 L2 x x' n2 HS2.out.1 HI2.out HIX.out (by rw [HL.out]; omega) HF2.out HFX.out).1 (by rw [HL.out]; omega)⟩
          have HKY : Hid (x'.kn ≤ 140737488355328 ∧ BytesAt 0 w5 x'.kp x'.kn) := ⟨by rw [EX.out]; exact OKX.out.2.1, HKX.out⟩
          go_wp2_with fail
          clear x0 x1 x2 x3 x4 x5 x6
          refine (new_any w5).mono ?_
          rintro e w6 ⟨rfl, hw6⟩
          have HC6 : Hid (CacheAt w5.heap.size w6 w5.heap.size D0.1 D0.2) := by
            rw [hw6]
            exact ⟨Option.none, Option.none, Nat.le_refl _, heap_alloc_new w5 _, rfl, rfl, .inl rfl⟩
          have HB6 : Hid (Below w5.heap.size w5 w6) := by
            rw [hw6]
            exact (Below.refl _ _).alloc (Nat.le_refl _) _
          clear hw6
          go_wp2_with fail
          go_loopw [74] (fun i wr => ∃ k : Nat, k ≤ n1 ∧ i = .int .i64 k ∧ Hid (CacheAt w5.heap.size wr w5.heap.size (addAll D0 (M1.take k)).1 (addAll D0 (M1.take k)).2) ∧ Hid (Below w5.heap.size w5 wr)) (fun i _ => n1 - (intOf i).toNat)
          case atStart => exact ⟨0, Nat.zero_le _, rfl, HC6, HB6⟩
          case round =>
            clear HC6 HB6
            obtain ⟨k, hk, rfl, HC, HBB⟩ := hrel
            by_cases hlt : k < n1
            · obtain ⟨p, hp⟩ : ∃ p, M1[k]? = some p := ⟨M1[k]'(by rw [HS51.out.1]; exact hlt), List.getElem?_eq_getElem _⟩
              obtain ⟨b, off, hpe, ho⟩ := HS51.out.2.resolve_left (by omega)
              subst hpe
              obtain ⟨z0, z1, z2, z3, z4, z5, z6⟩ := (ho k p hp).below HBB.out (ho k p hp).lt
              clear ho
              have hk0 : (0 : Int) ≤ (k : Int) := by omega
              have hkn : (k : Int) < (n1 : Int) := by omega
              have hpf := HF1.out p (List.mem_of_getElem? hp)
              have HPF : Hid (IdFit p) := hpf
              clear hpf
              go_wp2_with fail
              refine (cacheAdd_any w5.heap.size w5.heap.size _ _ p wr HPF.out.1 HPF.out.2 HC.out).mono ?_
              rintro e w7 ⟨rfl, hc7, hb7⟩
              have HC7 : Hid (CacheAt w5.heap.size w7 w5.heap.size (addAll D0 (M1.take (k + 1))).1 (addAll D0 (M1.take (k + 1))).2) := by
                rw [List.take_add_one, hp]
                show CacheAt _ _ _ (addAll D0 (M1.take k ++ [p])).1 (addAll D0 (M1.take k ++ [p])).2
                rw [addAll_snoc]
                exact hc7
              have HB7 : Hid (Below w5.heap.size w5 w7) := HBB.out.trans hb7
              clear hc7 hb7 z0 z1 z2 z3 z4 z5 z6
              go_wp2_with fail
              go_roundw
              case rel => exact ⟨k + 1, by omega, by go_num, HC7, HB7⟩
              case measure => simp [intOf]; omega
            · have HC' : Hid (CacheAt w5.heap.size wr w5.heap.size (addAll D0 M1).1 (addAll D0 M1).2) := by
                have := HC.out
                rwa [List.take_of_length_le (by rw [HS51.out.1]; omega)] at this
              obtain ⟨z0, z1, z2, z3, z4, z5, z6⟩ := HX5.out.below HBB.out hBx5
              simp only [Nat.zero_add] at z0 z1 z2 z3 z4 z5 z6
              clear HC
              go_wp2_with fail
              refine (cacheAdd_any w5.heap.size w5.heap.size _ _ x' wr HFX.out.1 HFX.out.2 HC'.out).mono ?_
              rintro e w8 ⟨rfl, hc8, hb8⟩
              have HC8 : Hid (CacheAt w5.heap.size w8 w5.heap.size (addAll D0 (M1 ++ [x'] ++ M2.take 0)).1 (addAll D0 (M1 ++ [x'] ++ M2.take 0)).2) := by
                rw [List.take_zero, List.append_nil, addAll_snoc]
                exact hc8
              have HB8 : Hid (Below w5.heap.size w5 w8) := HBB.out.trans hb8
              clear hc8 hb8 z0 z1 z2 z3 z4 z5 z6 HC' HBB hk hlt
              go_wp2_with fail
              go_loopw [89] (fun i wr => ∃ k : Nat, k ≤ n2 ∧ i = .int .i64 k ∧ Hid (CacheAt w5.heap.size wr w5.heap.size (addAll D0 (M1 ++ [x'] ++ M2.take k)).1 (addAll D0 (M1 ++ [x'] ++ M2.take k)).2) ∧ Hid (Below w5.heap.size w5 wr)) (fun i _ => n2 - (intOf i).toNat)
              case atStart => exact ⟨0, Nat.zero_le _, rfl, HC8, HB8⟩
              case round =>
                clear HC8 HB8
                obtain ⟨k, hk, rfl, HC, HBB⟩ := hrel
                by_cases hlt : k < n2
                · obtain ⟨p, hp⟩ : ∃ p, M2[k]? = some p := ⟨M2[k]'(by rw [HS52.out.1]; exact hlt), List.getElem?_eq_getElem _⟩
                  obtain ⟨b, off, hpe, ho⟩ := HS52.out.2.resolve_left (by omega)
                  subst hpe
                  obtain ⟨z0, z1, z2, z3, z4, z5, z6⟩ := (ho k p hp).below HBB.out (ho k p hp).lt
                  clear ho
                  have hk0 : (0 : Int) ≤ (k : Int) := by omega
                  have hkn : (k : Int) < (n2 : Int) := by omega
                  have hpf := HF2.out p (List.mem_of_getElem? hp)
                  have HPF : Hid (IdFit p) := hpf
                  clear hpf
                  go_wp2_with fail
                  refine (cacheAdd_any w5.heap.size w5.heap.size _ _ p wr HPF.out.1 HPF.out.2 HC.out).mono ?_
                  rintro e w7 ⟨rfl, hc7, hb7⟩
                  have HC7 : Hid (CacheAt w5.heap.size w7 w5.heap.size (addAll D0 (M1 ++ [x'] ++ M2.take (k + 1))).1 (addAll D0 (M1 ++ [x'] ++ M2.take (k + 1))).2) := by
                    rw [List.take_add_one, hp, ← List.append_assoc]
                    show CacheAt _ _ _ (addAll D0 (M1 ++ [x'] ++ M2.take k ++ [p])).1 (addAll D0 (M1 ++ [x'] ++ M2.take k ++ [p])).2
                    rw [addAll_snoc]
                    exact hc7
                  have HB7 : Hid (Below w5.heap.size w5 w7) := HBB.out.trans hb7
                  clear hc7 hb7 z0 z1 z2 z3 z4 z5 z6
                  go_wp2_with fail
                  go_roundw
                  case rel => exact ⟨k + 1, by omega, by go_num, HC7, HB7⟩
                  case measure => simp [intOf]; omega
                · have HC' : Hid (CacheAt w5.heap.size wr w5.heap.size (addAll D0 (M1 ++ [x'] ++ M2)).1 (addAll D0 (M1 ++ [x'] ++ M2)).2) := by
                    have := HC.out
                    rwa [List.take_of_length_le (by rw [HS52.out.1]; omega)] at this
                  obtain ⟨z0, z1, z2, z3, z4, z5, z6⟩ := HX5.out.below HBB.out hBx5
                  simp only [Nat.zero_add] at z0 z1 z2 z3 z4 z5 z6
                  clear HC
                  obtain ⟨jj, hinv, hs1, hcase⟩ := HKEEP.out
                  generalize addAll D0 (M1 ++ [x'] ++ M2) = D at HC' hinv hs1 hcase
                  have s0 : (1 : Int) ≤ (Maps.size D.1 : Int) := by omega
                  have s1 : (Maps.size D.1 : Int) ≤ 512 := by have := hinv.2.2.1; omega
                  have s2 : (Maps.size D.2 : Int) ≤ 512 := by have := hinv.2.2.2; omega
                  clear hinv hs1
                  rcases hcase with ⟨hh, hat⟩ | ⟨hh, hh2, hat, _⟩
                  · have hcon := cacheRecent_any w5.heap.size w5.heap.size D.1 D.2 x' x'.kp x'.kn x'.kc wr HFX.out.1 HC'.out (hat _)
                    rw [hh] at hcon
                    have HCON : Hid (Calls Try.prog 13 #[.pointer (some ⟨w5.heap.size, 0, none⟩), .agg #[.string x'.a, .string x'.b, .string x'.c, .string x'.d, .string x'.e, .string x'.f, .slice x'.kp x'.kn x'.kc]] wr fun e w' => e = .returned (.tuple #[.slice x'.kp x'.kn x'.kc, .bool true]) ∧ Below wr.heap.size wr w') := hcon
                    clear hcon hh hat
                    go_wp2_with fail
                    refine HCON.out.mono ?_
                    rintro e wA ⟨rfl, hbA⟩
                    have HBA : Hid (Below wr.heap.size wr wA) := hbA
                    clear hbA
                    go_wp2_with fail
                    refine (lens_any w5.heap.size w5.heap.size D.1 D.2 wA (HC'.out.below HBA.out)).mono ?_
                    rintro e wB ⟨rfl, hbB⟩
                    have HBB2 : Hid (Below wA.heap.size wA wB) := hbB
                    clear hbB
                    go_wp2_with fail
                    refine (sameBytes_self x'.kp x'.kn x'.kc wB (by have := HKY.out.1; unfold maxLen; omega) (((HKY.out.2.below HBB.out).below HBA.out).below HBB2.out)).mono ?_
                    rintro e wC ⟨rfl, hbC⟩
                    have HBF : Hid (Below w.heap.size w wC) := HB5.out.trans (HBB.out.mono (Nat.le_of_lt hBx5) |>.trans ((HBA.out.trans ((HBB2.out.trans (hbC.mono HBB2.out.size)).mono HBA.out.size)).mono (Nat.le_trans (Nat.le_of_lt hBx5) HBB.out.size)))
                    clear hbC
                    go_wp2
                    go_ret
                    exact ⟨ret_bool (by simp), HBF.out⟩
                  · have hcon := cacheRecent_any w5.heap.size w5.heap.size D.1 D.2 x' Option.none 0 0 wr HFX.out.1 HC'.out (atKey_of_not_has hh _)
                    rw [hh] at hcon
                    have HCON : Hid (Calls Try.prog 13 #[.pointer (some ⟨w5.heap.size, 0, none⟩), .agg #[.string x'.a, .string x'.b, .string x'.c, .string x'.d, .string x'.e, .string x'.f, .slice x'.kp x'.kn x'.kc]] wr fun e w' => e = .returned (.tuple #[.slice Option.none 0 0, .bool false]) ∧ Below wr.heap.size wr w') := hcon
                    have HH2 : Hid (Maps.has D.2 (kl x') = true) := hh2
                    have HAT : Hid (D.2.atKey (kl x') (.held zero62) = .held (.agg #[.slice x'.kp x'.kn x'.kc, .nilIface])) := hat _
                    clear hcon hh hat hh2
                    go_wp2_with fail
                    refine HCON.out.mono ?_
                    rintro e wA ⟨rfl, hbA⟩
                    have HBA : Hid (Below wr.heap.size wr wA) := hbA
                    clear hbA z0 z1 z2 z3 z4 z5 z6
                    obtain ⟨z0, z1, z2, z3, z4, z5, z6⟩ := (HX5.out.below HBB.out hBx5).below HBA.out (Nat.lt_of_lt_of_le hBx5 HBB.out.size)
                    simp only [Nat.zero_add] at z0 z1 z2 z3 z4 z5 z6
                    have hcon := cacheOlder_any w5.heap.size w5.heap.size D.1 D.2 x' x'.kp x'.kn x'.kc wA HFX.out.1 (HC'.out.below HBA.out) HAT.out
                    rw [HH2.out] at hcon
                    have HCO : Hid (Calls Try.prog 16 #[.pointer (some ⟨w5.heap.size, 0, none⟩), .agg #[.string x'.a, .string x'.b, .string x'.c, .string x'.d, .string x'.e, .string x'.f, .slice x'.kp x'.kn x'.kc]] wA fun e w' => e = .returned (.tuple #[.slice x'.kp x'.kn x'.kc, .bool true]) ∧ Below wA.heap.size wA w') := hcon
                    clear hcon
                    go_wp2_with fail
                    refine HCO.out.mono ?_
                    rintro e wA2 ⟨rfl, hbA2⟩
                    have HBA2 : Hid (Below wA.heap.size wA wA2) := hbA2
                    clear hbA2
                    go_wp2_with fail
                    refine (lens_any w5.heap.size w5.heap.size D.1 D.2 wA2 ((HC'.out.below HBA.out).below HBA2.out)).mono ?_
                    rintro e wB ⟨rfl, hbB⟩
                    have HBB2 : Hid (Below wA2.heap.size wA2 wB) := hbB
                    clear hbB
                    go_wp2_with fail
                    refine (sameBytes_self x'.kp x'.kn x'.kc wB (by have := HKY.out.1; unfold maxLen; omega) ((((HKY.out.2.below HBB.out).below HBA.out).below HBA2.out).below HBB2.out)).mono ?_
                    rintro e wC ⟨rfl, hbC⟩
                    have HBF : Hid (Below w.heap.size w wC) := by
                      have k1 : Below wr.heap.size wr wC := HBA.out.trans ((HBA2.out.trans ((HBB2.out.trans (hbC.mono HBB2.out.size)).mono HBA2.out.size)).mono HBA.out.size)
                      exact HB5.out.trans ((HBB.out.trans (k1.mono HBB.out.size)).mono (Nat.le_of_lt hBx5))
                    clear hbC
                    go_wp2
                    go_ret
                    exact ⟨ret_bool (by simp), HBF.out⟩

end Go.Proofs.Qxb6616163a
