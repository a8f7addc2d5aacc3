/-
  Seat b6616163a: THE LAW's WALK: FnKeyCacheAddKeepsTwoGenerations returns true at every input.
-/
import Derived.Test.Qxb6616163aPlain2
import Derived.Test.Qxb6616163aLaw1
namespace Go.Proofs.Qxb6616163a
open Go.RowKit Go.Maps

attribute [local go_sem ↓] Go.wp_at_zero Go.wp_at_succ

theorem zzA_below (p : Option Addr) (n c : Nat) (L : List KOp) (w : World) (hn : n ≤ maxLen) (h : SliceOps w p n L) :
    Calls Try.prog 5 #[.slice p n c] w fun e w' => IsBool e ∧ Below w.heap.size w w' := by
  refine (zzA_any p n c L w hn h).mono ?_
  rintro e w' ⟨hb, rfl⟩
  exact ⟨hb, Below.refl _ _⟩

theorem distinctIn_any (p : Option Addr) (n c : Nat) (L : List KOp) (lo hi : Nat) (w : World) (hn : n ≤ maxLen) (hlo : lo ≤ hi) (hhi : hi ≤ n) (h : SliceOps w p n L) :
    Calls Try.prog 12 #[.slice p n c, .int .i64 lo, .int .i64 hi] w fun e w' => e = .returned (.int .i64 (dcount L lo hi)) ∧ Below w.heap.size w w' := by
  obtain ⟨hL, h⟩ := h
  by_cases h0 : n = 0
  · obtain rfl : hi = 0 := by omega
    obtain rfl : lo = 0 := by omega
    go_enter Try.func12, Try.ntmps12
    go_wp2
    refine wp_loop_rounds 1 ?_
    rw [rounds_succ]
    go_wp2
    go_ret
    exact ⟨rfl, Below.refl _ _⟩
  · obtain ⟨b, off, rfl, ho⟩ := h.resolve_left h0
    exact distinctIn_some b off n c L lo hi w hL hn hlo hhi ho (ho.lt (by omega))

set_option maxHeartbeats 8000000 in
set_option maxRecDepth 100000 in
theorem law2 (p1 : Option Addr) (n c1 : Nat) (L : List KOp) (w : World) (hn : n ≤ maxLen) (h1 : SliceOps w p1 n L) (ok1 : ∀ o ∈ L, OpOk w o) :
    Calls Try.prog 3 #[.slice p1 n c1] w fun e w' => e = .returned (.bool true) ∧ Below w.heap.size w w' := by
  have hm1 := hn
  unfold maxLen at hn
  have HS1 : Hid (SliceOps w p1 n L) := h1
  have OK1 : Hid (∀ o ∈ L, OpOk w o) := ok1
  clear h1 ok1
  go_enter Try.func3, Try.ntmps3
  go_wp2_with fail
  refine (zzA_below p1 n c1 L w hm1 HS1.out).mono ?_
  rintro e wa ⟨⟨r, rfl⟩, hba⟩
  have HBA : Hid (Below w.heap.size w wa) := hba
  clear hba
  cases r with
  | false =>
    go_wp2
    go_ret
    exact ⟨rfl, HBA.out⟩
  | true =>
    by_cases g1 : 4096 < n
    · go_wp2
      go_ret
      exact ⟨rfl, HBA.out⟩
    go_wp2_with fail
    refine (keyOpsBytes_any 0 p1 n c1 L wa (by omega) (by omega) hm1 (HS1.out.below HBA.out)).mono ?_
    rintro e wb ⟨⟨r, rfl, hr0, hr1⟩, hbb⟩
    have HBB : Hid (Below w.heap.size w wb) := HBA.out.trans (hbb.mono HBA.out.size)
    clear hbb
    by_cases g2 : 1048576 < r
    · go_wp2
      go_ret
      exact ⟨rfl, HBB.out⟩
    go_wp2_with fail
    refine (cloneKeyOps_any p1 n c1 L wb (by omega) (HS1.out.below HBB.out) (fun o ho => ⟨(OK1.out o ho).2.1, (OK1.out o ho).2.2.below HBB.out⟩)).mono ?_
    rintro e w2 ⟨q1, d1, M, rfl, hb2, hs2, hid2, hk2⟩
    have HB2 : Hid (Below w.heap.size w w2) := HBB.out.trans (hb2.mono HBB.out.size)
    have HS2 : Hid (SliceOps w2 q1 n M) := hs2.ops
    have HK2 : Hid (∀ o ∈ M, o.kn ≤ 140737488355328 ∧ BytesAt 0 w2 o.kp o.kn) := fun o ho => ⟨(hk2 o ho).1, bytes_zero (hk2 o ho).2⟩
    have HF : Hid (∀ o ∈ M, IdFit o) := idFit_all hid2 (fun o ho => (OK1.out o ho).1)
    have HF1 : Hid (∀ o ∈ M, IdOk o) := fun o ho => (HF.out o ho).1
    have hML : M.length = n := hs2.1
    have HML : Hid (M.length = n) := hML
    have hz2 : w.heap.size ≤ w2.heap.size := HB2.out.size
    clear hb2 hs2 hid2 hk2 HBA HBB hr0 hr1 hML
    go_wp2_with fail
    go_loopw [3, 4, 5, 31] (fun s3 s4 s5 i wr => ∃ (k : Nat) (prev : Int) (cur : Nat), k ≤ n ∧ cur ≤ k ∧ i = .int .i64 k ∧ s3 = .int .i64 prev ∧ s4 = .int .i64 cur ∧ s5 = .int .i64 (dcount M cur k) ∧ Hid (Gen M k prev cur) ∧ Hid (Below w2.heap.size w2 wr)) (fun _ _ _ i _ => n - (intOf i).toNat)
    case atStart => exact ⟨0, -1, 0, Nat.zero_le _, Nat.le_refl _, rfl, rfl, rfl, rfl, gen0 M, Below.refl _ _⟩
    case round =>
      obtain ⟨k, prev, cur, hk, hck, rfl, rfl, rfl, rfl, HG, HB⟩ := hrel
      have hdb := dcount_bd M cur k
      by_cases hlt : k < n
      · obtain ⟨p, hp⟩ : ∃ p, M[k]? = some p := ⟨M[k]'(by rw [HML.out]; exact hlt), List.getElem?_eq_getElem _⟩
        obtain ⟨b, off, hpe, ho⟩ := HS2.out.2.resolve_left (by omega)
        subst hpe
        have HO : Hid (OpsAt wr b off M) := ho.below HB.out (ho k p hp).lt
        have hbr : b < wr.heap.size := (HO.out k p hp).lt
        obtain ⟨z0, z1, z2, z3, z4, z5, z6⟩ := HO.out k p hp
        clear ho
        have hk0 : (0 : Int) ≤ (k : Int) := by omega
        have hkn : (k : Int) < (n : Int) := by omega
        by_cases hd : 512 ≤ dcount M cur k
        · have hd' : (512 : Int) ≤ (dcount M cur k : Int) := by omega
          have HD : Hid (512 ≤ dcount M cur k) := hd
          have hcon := seenIn_some b off n d1 M k k p wr HML.out hm1 (Nat.le_refl _) (by omega) HO.out hbr
          rw [seen_same] at hcon
          have HCON : Hid (Calls Try.prog 8 #[.slice (some ⟨b, off, none⟩) n d1, .int .i64 k, .int .i64 k, .agg #[.string p.a, .string p.b, .string p.c, .string p.d, .string p.e, .string p.f, .slice p.kp p.kn p.kc]] wr fun e w' => e = .returned (.bool false) ∧ Below wr.heap.size wr w') := hcon
          clear hcon hd
          go_wp2_with fail
          refine HCON.out.mono ?_
          rintro e wc ⟨rfl, hbc⟩
          have HBC : Hid (Below w2.heap.size w2 wc) := HB.out.trans (hbc.mono HB.out.size)
          have HD1 : Hid (dcount M k (k + 1) = 1) := show _ = _ by rw [dcount_new M k k p (Nat.le_refl _) hp (seen_same M k p), dcount_le M k k (Nat.le_refl _)]
          clear hbc z0 z1 z2 z3 z4 z5 z6
          go_wp2
          go_roundw
          case rel => exact ⟨k + 1, cur, k, by omega, by omega, by go_num, rfl, rfl, by rw [HD1.out]; rfl, gen_rotate HG.out HF1.out p hp HD.out, HBC⟩
          case measure => simp [intOf]; omega
        · have hd' : (dcount M cur k : Int) < 512 := by omega
          have HD : Hid (¬ 512 ≤ dcount M cur k) := hd
          clear hd
          go_wp2_with fail
          refine (seenIn_some b off n d1 M cur k p wr HML.out hm1 hck (by omega) HO.out hbr).mono ?_
          rintro e wc ⟨rfl, hbc⟩
          have HBC : Hid (Below w2.heap.size w2 wc) := HB.out.trans (hbc.mono HB.out.size)
          clear hbc z0 z1 z2 z3 z4 z5 z6
          go_wp2
          · go_roundw
            case rel =>
              have hs : seen M cur k p = false := by simpa using ‹(!seen M cur k p) = true›
              exact ⟨k + 1, prev, cur, by omega, by omega, by go_num, rfl, rfl, by rw [dcount_new M cur k p hck hp hs]; go_num, gen_stay HG.out HF1.out p hp HD.out, HBC⟩
            case measure => simp [intOf]; omega
          · go_roundw
            case rel =>
              have hs : seen M cur k p = true := by simpa using ‹(!seen M cur k p) = false›
              exact ⟨k + 1, prev, cur, by omega, by omega, by go_num, rfl, rfl, by rw [dcount_old M cur k p hck hp hs], gen_stay HG.out HF1.out p hp HD.out, HBC⟩
            case measure => simp [intOf]; omega
      · have hkn : k = n := by omega
        subst hkn
        have HS5 : Hid (SliceOps wr q1 k M) := HS2.out.below HB.out
        have HK5 : Hid (∀ o ∈ M, o.kn ≤ 140737488355328 ∧ BytesAt 0 wr o.kp o.kn) := fun o ho => ⟨(HK2.out o ho).1, (HK2.out o ho).2.below HB.out⟩
        have HB5 : Hid (Below w.heap.size w wr) := HB2.out.trans (HB.out.mono hz2)
        have hz5 : w.heap.size ≤ wr.heap.size := HB5.out.size
        clear HS2 HK2 HB HB2 hz2 hk hlt
        obtain ⟨w5, hw5⟩ : ∃ w5, w5 = wr := ⟨_, rfl⟩
        subst hw5
        go_wp2_with fail
        refine (new_any w5).mono ?_
        rintro e w6 ⟨rfl, hw6⟩
        have HC6 : Hid (CacheAt w5.heap.size w6 w5.heap.size D0.1 D0.2) := by
          rw [hw6]
          exact ⟨Option.none, Option.none, Nat.le_refl _, heap_alloc_new w5 _, rfl, rfl, .inl rfl⟩
        have HB6 : Hid (Below w5.heap.size w5 w6) := by
          rw [hw6]
          exact (Below.refl _ _).alloc (Nat.le_refl _) _
        clear hw6
        go_wp2_with fail
        go_loopw [53] (fun i wr => ∃ j : Nat, j ≤ k ∧ i = .int .i64 j ∧ Hid (CacheAt w5.heap.size wr w5.heap.size (addAll D0 (M.take j)).1 (addAll D0 (M.take j)).2) ∧ Hid (Below w5.heap.size w5 wr)) (fun i _ => k - (intOf i).toNat)
        case atStart => exact ⟨0, Nat.zero_le _, rfl, HC6, HB6⟩
        case round =>
          clear HC6 HB6
          obtain ⟨j, hj, rfl, HC, HBJ⟩ := hrel
          by_cases hjlt : j < k
          · obtain ⟨p, hp⟩ : ∃ p, M[j]? = some p := ⟨M[j]'(by rw [HML.out]; exact hjlt), List.getElem?_eq_getElem _⟩
            obtain ⟨b, off, hpe, ho⟩ := HS5.out.2.resolve_left (by omega)
            have hpe' : q1 = some ⟨b, off, none⟩ := hpe
            subst hpe'
            obtain ⟨z0, z1, z2, z3, z4, z5, z6⟩ := (ho j p hp).below HBJ.out (ho j p hp).lt
            clear ho
            have hj0 : (0 : Int) ≤ (j : Int) := by omega
            have hjn : (j : Int) < (k : Int) := by omega
            have HPF : Hid (IdFit p) := HF.out p (List.mem_of_getElem? hp)
            go_wp2_with fail
            refine (cacheAdd_any w5.heap.size w5.heap.size _ _ p wr HPF.out.1 HPF.out.2 HC.out).mono ?_
            rintro e w7 ⟨rfl, hc7, hb7⟩
            have HC7 : Hid (CacheAt w5.heap.size w7 w5.heap.size (addAll D0 (M.take (j + 1))).1 (addAll D0 (M.take (j + 1))).2) := by
              rw [take_next hp]
              exact hc7
            have HB7 : Hid (Below w5.heap.size w5 w7) := HBJ.out.trans hb7
            clear hc7 hb7 z0 z1 z2 z3 z4 z5 z6
            go_wp2_with fail
            go_roundw
            case rel => exact ⟨j + 1, by omega, by go_num, HC7, HB7⟩
            case measure => simp [intOf]; omega
          · have hjk : j = k := by omega
            have htk : M.take k = M := List.take_of_length_le (by rw [HML.out]; exact Nat.le_refl _)
            have HC' : Hid (CacheAt w5.heap.size wr w5.heap.size (addAll D0 M).1 (addAll D0 M).2) := by
              have := HC.out
              rwa [hjk, htk] at this
            obtain ⟨hgc, hgm, hgo⟩ := HG.out
            rw [htk] at hgm hgo
            have HGM : Hid (GenMap M cur k (addAll D0 M).1) := hgm
            have hs1 := hgm.2.1
            clear hjk HC hgm
            have hcur0 : (0 : Int) ≤ (cur : Int) := by omega
            rcases hgo with ⟨hprev, hD2⟩ | ⟨qq, hprev, hqc, hgm2⟩
            · subst hprev
              have hcon := lens_any w5.heap.size w5.heap.size (addAll D0 M).1 (addAll D0 M).2 wr HC'.out
              rw [hs1, hD2] at hcon
              have HCON : Hid (Calls Try.prog 11 #[.pointer (some ⟨w5.heap.size, 0, none⟩)] wr fun e w' => e = .returned (.tuple #[.int .i64 (dcount M cur k), .int .i64 ((0 : Nat) : Int)]) ∧ Below wr.heap.size wr w') := hcon
              clear hcon hs1 hD2
              go_wp2_with fail
              refine HCON.out.mono ?_
              rintro e w8 ⟨rfl, hb8⟩
              have HC8 : Hid (CacheAt w5.heap.size w8 w5.heap.size (addAll D0 M).1 (addAll D0 M).2) := HC'.out.below hb8
              have HB58 : Hid (Below w5.heap.size w5 w8) := HBJ.out.trans (hb8.mono HBJ.out.size)
              have HS8 : Hid (SliceOps w8 q1 k M) := HS5.out.below HB58.out
              have HK8 : Hid (∀ o ∈ M, o.kn ≤ 140737488355328 ∧ BytesAt 0 w8 o.kp o.kn) := fun o ho => ⟨(HK5.out o ho).1, (HK5.out o ho).2.below HB58.out⟩
              have HB8 : Hid (Below w.heap.size w w8) := HB5.out.trans (HB58.out.mono hz5)
              have hz8 : w.heap.size ≤ w8.heap.size := HB8.out.size
              clear hb8 HB58 HC' HBJ hj hjlt HCON
              go_wp2_with fail
              go_loopw [12] (fun i wr => ∃ j : Nat, cur ≤ j ∧ j ≤ k ∧ i = .int .i64 j ∧ Hid (Below w8.heap.size w8 wr)) (fun i _ => k - (intOf i).toNat)
              case atStart => exact ⟨cur, Nat.le_refl _, hgc, rfl, Below.refl _ _⟩
              case round =>
                obtain ⟨j, hj1, hj2, rfl, HBJ⟩ := hrel
                by_cases hjlt : j < k
                · obtain ⟨p, hp⟩ : ∃ p, M[j]? = some p := ⟨M[j]'(by rw [HML.out]; omega), List.getElem?_eq_getElem _⟩
                  obtain ⟨b, off, hpe, ho⟩ := HS8.out.2.resolve_left (by omega)
                  have hpe' : q1 = some ⟨b, off, none⟩ := hpe
                  subst hpe'
                  have hb8 : b < w8.heap.size := (ho j p hp).lt
                  have HO : Hid (OpsAt wr b off M) := ho.below HBJ.out hb8
                  have hbr : b < wr.heap.size := (HO.out j p hp).lt
                  obtain ⟨z0, z1, z2, z3, z4, z5, z6⟩ := HO.out j p hp
                  clear ho
                  have hj0 : (0 : Int) ≤ (j : Int) := by omega
                  have hjn : (j : Int) < (k : Int) := by omega
                  have hjh : (j : Int) < (k : Int) := by omega
                  obtain ⟨hhas, hlast, q, hq, hat⟩ := gen_look HGM.out HF1.out j p hj1 hjlt hp
                  have hcon := cacheRecent_any w5.heap.size w5.heap.size (addAll D0 M).1 (addAll D0 M).2 p q.kp q.kn q.kc wr (HF1.out p (List.mem_of_getElem? hp)) (HC8.out.below HBJ.out) hat
                  rw [hhas] at hcon
                  have HCON : Hid (Calls Try.prog 13 #[.pointer (some ⟨w5.heap.size, 0, none⟩), .agg #[.string p.a, .string p.b, .string p.c, .string p.d, .string p.e, .string p.f, .slice p.kp p.kn p.kc]] wr fun e w' => e = .returned (.tuple #[.slice q.kp q.kn q.kc, .bool true]) ∧ Below wr.heap.size wr w') := hcon
                  have HKQ : Hid (q.kn ≤ 140737488355328 ∧ BytesAt 0 wr q.kp q.kn) := ⟨(HK8.out q (List.mem_of_getElem? hq)).1, (HK8.out q (List.mem_of_getElem? hq)).2.below HBJ.out⟩
                  have HHI : Hid (k ≤ k) := show k ≤ k by omega
                  clear hcon hhas hat
                  go_wp2_with fail
                  refine HCON.out.mono ?_
                  rintro e wA ⟨rfl, hbA⟩
                  have HBA : Hid (Below wr.heap.size wr wA) := hbA
                  have HOA : Hid (OpsAt wA b off M) := HO.out.below hbA hbr
                  have hbA' : b < wA.heap.size := Nat.lt_of_lt_of_le hbr hbA.size
                  clear hbA z0 z1 z2 z3 z4 z5 z6
                  have hlcon := lastIn_some b off k d1 M k j p wA HML.out hm1 hjlt (by omega) hp HOA.out hbA'
                  have hmk : lastI M j p k < k := Nat.lt_of_lt_of_le hlast (Nat.le_of_eq HML.out)
                  clear hlast
                  generalize lastI M j p k = m at hlcon hq hmk
                  have HLC : Hid (Calls Try.prog 15 #[.slice (some ⟨b, off, none⟩) k d1, .int .i64 k, .int .i64 j] wA fun e w' => e = .returned (.int .i64 m) ∧ Below wA.heap.size wA w') := hlcon
                  clear hlcon
                  go_wp2_with fail
                  refine HLC.out.mono ?_
                  rintro e wB ⟨rfl, hbB⟩
                  have HBB : Hid (Below wA.heap.size wA wB) := hbB
                  obtain ⟨y0, y1, y2, y3, y4, y5, y6⟩ := (HOA.out m q hq).below hbB hbA'
                  have hm0 : (0 : Int) ≤ (m : Int) := by omega
                  have hmn : (m : Int) < (k : Int) := by omega
                  clear hbB
                  go_wp2_with fail
                  refine (sameBytes_self q.kp q.kn q.kc wB (by have := HKQ.out.1; unfold maxLen; omega) ((HKQ.out.2.below HBA.out).below HBB.out)).mono ?_
                  rintro e wC ⟨rfl, hbC⟩
                  have HBC : Hid (Below w8.heap.size w8 wC) := by
                    have k1 : Below wr.heap.size wr wC := HBA.out.trans ((HBB.out.trans (hbC.mono HBB.out.size)).mono HBA.out.size)
                    exact HBJ.out.trans (k1.mono HBJ.out.size)
                  clear hbC y0 y1 y2 y3 y4 y5 y6
                  go_wp2
                  go_roundw
                  case rel => exact ⟨j + 1, by omega, by omega, by go_num, HBC⟩
                  case measure => simp [intOf]; omega
                · go_wp2
                  go_ret
                  exact ⟨rfl, HB8.out.trans (HBJ.out.mono hz8)⟩
            · subst hprev
              have HGM2 : Hid (GenMap M qq cur (addAll D0 M).2) := hgm2
              have hs2 := hgm2.2.1
              have hcon := lens_any w5.heap.size w5.heap.size (addAll D0 M).1 (addAll D0 M).2 wr HC'.out
              rw [hs1, hs2] at hcon
              have HCON : Hid (Calls Try.prog 11 #[.pointer (some ⟨w5.heap.size, 0, none⟩)] wr fun e w' => e = .returned (.tuple #[.int .i64 (dcount M cur k), .int .i64 (dcount M qq cur)]) ∧ Below wr.heap.size wr w') := hcon
              clear hcon hs1 hs2 hgm2
              have hqq0 : (0 : Int) ≤ (qq : Int) := by omega
              go_wp2_with fail
              refine HCON.out.mono ?_
              rintro e w7 ⟨rfl, hb7⟩
              have HC7 : Hid (CacheAt w5.heap.size w7 w5.heap.size (addAll D0 M).1 (addAll D0 M).2) := HC'.out.below hb7
              have HB57 : Hid (Below w5.heap.size w5 w7) := HBJ.out.trans (hb7.mono HBJ.out.size)
              have HS7 : Hid (SliceOps w7 q1 k M) := HS5.out.below HB57.out
              clear hb7 HC' HBJ hj hjlt HCON
              go_wp2_with fail
              have hdcon : Calls Try.prog 12 #[.slice q1 k d1, .int .i64 qq, .int .i64 cur] w7 fun e w' => e = .returned (.int .i64 (dcount M qq cur)) ∧ Below w7.heap.size w7 w' := distinctIn_any q1 k d1 M qq cur w7 hm1 hqc hgc HS7.out
              refine hdcon.mono ?_
              rintro e w8 ⟨rfl, hb8⟩
              have HC8 : Hid (CacheAt w5.heap.size w8 w5.heap.size (addAll D0 M).1 (addAll D0 M).2) := HC7.out.below hb8
              have HB58 : Hid (Below w5.heap.size w5 w8) := HB57.out.trans (hb8.mono HB57.out.size)
              have HS8 : Hid (SliceOps w8 q1 k M) := HS5.out.below HB58.out
              have HK8 : Hid (∀ o ∈ M, o.kn ≤ 140737488355328 ∧ BytesAt 0 w8 o.kp o.kn) := fun o ho => ⟨(HK5.out o ho).1, (HK5.out o ho).2.below HB58.out⟩
              have HB8 : Hid (Below w.heap.size w w8) := HB5.out.trans (HB58.out.mono hz5)
              have hz8 : w.heap.size ≤ w8.heap.size := HB8.out.size
              clear hb8 HB57 HB58 HC7 HS7 hdcon
              go_wp2_with fail
              go_loopw [12] (fun i wr => ∃ j : Nat, cur ≤ j ∧ j ≤ k ∧ i = .int .i64 j ∧ Hid (Below w8.heap.size w8 wr)) (fun i _ => k - (intOf i).toNat)
              case atStart => exact ⟨cur, Nat.le_refl _, hgc, rfl, Below.refl _ _⟩
              case round =>
                obtain ⟨j, hj1, hj2, rfl, HBJ⟩ := hrel
                by_cases hjlt : j < k
                · obtain ⟨p, hp⟩ : ∃ p, M[j]? = some p := ⟨M[j]'(by rw [HML.out]; omega), List.getElem?_eq_getElem _⟩
                  obtain ⟨b, off, hpe, ho⟩ := HS8.out.2.resolve_left (by omega)
                  have hpe' : q1 = some ⟨b, off, none⟩ := hpe
                  subst hpe'
                  have hb8 : b < w8.heap.size := (ho j p hp).lt
                  have HO : Hid (OpsAt wr b off M) := ho.below HBJ.out hb8
                  have hbr : b < wr.heap.size := (HO.out j p hp).lt
                  obtain ⟨z0, z1, z2, z3, z4, z5, z6⟩ := HO.out j p hp
                  clear ho
                  have hj0 : (0 : Int) ≤ (j : Int) := by omega
                  have hjn : (j : Int) < (k : Int) := by omega
                  have hjh : (j : Int) < (k : Int) := by omega
                  obtain ⟨hhas, hlast, q, hq, hat⟩ := gen_look HGM.out HF1.out j p hj1 hjlt hp
                  have hcon := cacheRecent_any w5.heap.size w5.heap.size (addAll D0 M).1 (addAll D0 M).2 p q.kp q.kn q.kc wr (HF1.out p (List.mem_of_getElem? hp)) (HC8.out.below HBJ.out) hat
                  rw [hhas] at hcon
                  have HCON : Hid (Calls Try.prog 13 #[.pointer (some ⟨w5.heap.size, 0, none⟩), .agg #[.string p.a, .string p.b, .string p.c, .string p.d, .string p.e, .string p.f, .slice p.kp p.kn p.kc]] wr fun e w' => e = .returned (.tuple #[.slice q.kp q.kn q.kc, .bool true]) ∧ Below wr.heap.size wr w') := hcon
                  have HKQ : Hid (q.kn ≤ 140737488355328 ∧ BytesAt 0 wr q.kp q.kn) := ⟨(HK8.out q (List.mem_of_getElem? hq)).1, (HK8.out q (List.mem_of_getElem? hq)).2.below HBJ.out⟩
                  have HHI : Hid (k ≤ k) := show k ≤ k by omega
                  clear hcon hhas hat
                  go_wp2_with fail
                  refine HCON.out.mono ?_
                  rintro e wA ⟨rfl, hbA⟩
                  have HBA : Hid (Below wr.heap.size wr wA) := hbA
                  have HOA : Hid (OpsAt wA b off M) := HO.out.below hbA hbr
                  have hbA' : b < wA.heap.size := Nat.lt_of_lt_of_le hbr hbA.size
                  clear hbA z0 z1 z2 z3 z4 z5 z6
                  have hlcon := lastIn_some b off k d1 M k j p wA HML.out hm1 hjlt (by omega) hp HOA.out hbA'
                  have hmk : lastI M j p k < k := Nat.lt_of_lt_of_le hlast (Nat.le_of_eq HML.out)
                  clear hlast
                  generalize lastI M j p k = m at hlcon hq hmk
                  have HLC : Hid (Calls Try.prog 15 #[.slice (some ⟨b, off, none⟩) k d1, .int .i64 k, .int .i64 j] wA fun e w' => e = .returned (.int .i64 m) ∧ Below wA.heap.size wA w') := hlcon
                  clear hlcon
                  go_wp2_with fail
                  refine HLC.out.mono ?_
                  rintro e wB ⟨rfl, hbB⟩
                  have HBB : Hid (Below wA.heap.size wA wB) := hbB
                  obtain ⟨y0, y1, y2, y3, y4, y5, y6⟩ := (HOA.out m q hq).below hbB hbA'
                  have hm0 : (0 : Int) ≤ (m : Int) := by omega
                  have hmn : (m : Int) < (k : Int) := by omega
                  clear hbB
                  go_wp2_with fail
                  refine (sameBytes_self q.kp q.kn q.kc wB (by have := HKQ.out.1; unfold maxLen; omega) ((HKQ.out.2.below HBA.out).below HBB.out)).mono ?_
                  rintro e wC ⟨rfl, hbC⟩
                  have HBC : Hid (Below w8.heap.size w8 wC) := by
                    have k1 : Below wr.heap.size wr wC := HBA.out.trans ((HBB.out.trans (hbC.mono HBB.out.size)).mono HBA.out.size)
                    exact HBJ.out.trans (k1.mono HBJ.out.size)
                  clear hbC y0 y1 y2 y3 y4 y5 y6
                  go_wp2
                  go_roundw
                  case rel => exact ⟨j + 1, by omega, by omega, by go_num, HBC⟩
                  case measure => simp [intOf]; omega
                · have HC9 : Hid (CacheAt w5.heap.size wr w5.heap.size (addAll D0 M).1 (addAll D0 M).2) := HC8.out.below HBJ.out
                  have HS9 : Hid (SliceOps wr q1 k M) := HS8.out.below HBJ.out
                  have HK9 : Hid (∀ o ∈ M, o.kn ≤ 140737488355328 ∧ BytesAt 0 wr o.kp o.kn) := fun o ho => ⟨(HK8.out o ho).1, (HK8.out o ho).2.below HBJ.out⟩
                  have HB9 : Hid (Below w.heap.size w wr) := HB8.out.trans (HBJ.out.mono hz8)
                  have hz9 : w.heap.size ≤ wr.heap.size := HB9.out.size
                  clear HC8 HS8 HK8 HB8 hz8 HBJ
                  obtain ⟨w8', hw8'⟩ : ∃ w8', w8' = wr := ⟨_, rfl⟩
                  subst hw8'
                  go_wp2_with fail
                  go_loopw [15] (fun i wr => ∃ j : Nat, qq ≤ j ∧ j ≤ cur ∧ i = .int .i64 j ∧ Hid (Below w8'.heap.size w8' wr)) (fun i _ => cur - (intOf i).toNat)
                  case atStart => exact ⟨qq, Nat.le_refl _, hqc, rfl, Below.refl _ _⟩
                  case round =>
                    obtain ⟨j, hj1, hj2, rfl, HBJ⟩ := hrel
                    by_cases hjlt : j < cur
                    · obtain ⟨p, hp⟩ : ∃ p, M[j]? = some p := ⟨M[j]'(by rw [HML.out]; omega), List.getElem?_eq_getElem _⟩
                      obtain ⟨b, off, hpe, ho⟩ := HS9.out.2.resolve_left (by omega)
                      have hpe' : q1 = some ⟨b, off, none⟩ := hpe
                      subst hpe'
                      have hb8 : b < w8'.heap.size := (ho j p hp).lt
                      have HO : Hid (OpsAt wr b off M) := ho.below HBJ.out hb8
                      have hbr : b < wr.heap.size := (HO.out j p hp).lt
                      obtain ⟨z0, z1, z2, z3, z4, z5, z6⟩ := HO.out j p hp
                      clear ho
                      have hj0 : (0 : Int) ≤ (j : Int) := by omega
                      have hjn : (j : Int) < (k : Int) := by omega
                      have hjh : (j : Int) < (cur : Int) := by omega
                      obtain ⟨hhas, hlast, q, hq, hat⟩ := gen_look HGM2.out HF1.out j p hj1 hjlt hp
                      have hcon := cacheOlder_any w5.heap.size w5.heap.size (addAll D0 M).1 (addAll D0 M).2 p q.kp q.kn q.kc wr (HF1.out p (List.mem_of_getElem? hp)) (HC9.out.below HBJ.out) hat
                      rw [hhas] at hcon
                      have HCON : Hid (Calls Try.prog 16 #[.pointer (some ⟨w5.heap.size, 0, none⟩), .agg #[.string p.a, .string p.b, .string p.c, .string p.d, .string p.e, .string p.f, .slice p.kp p.kn p.kc]] wr fun e w' => e = .returned (.tuple #[.slice q.kp q.kn q.kc, .bool true]) ∧ Below wr.heap.size wr w') := hcon
                      have HKQ : Hid (q.kn ≤ 140737488355328 ∧ BytesAt 0 wr q.kp q.kn) := ⟨(HK9.out q (List.mem_of_getElem? hq)).1, (HK9.out q (List.mem_of_getElem? hq)).2.below HBJ.out⟩
                      have HHI : Hid (cur ≤ k) := show cur ≤ k by omega
                      clear hcon hhas hat
                      go_wp2_with fail
                      refine HCON.out.mono ?_
                      rintro e wA ⟨rfl, hbA⟩
                      have HBA : Hid (Below wr.heap.size wr wA) := hbA
                      have HOA : Hid (OpsAt wA b off M) := HO.out.below hbA hbr
                      have hbA' : b < wA.heap.size := Nat.lt_of_lt_of_le hbr hbA.size
                      clear hbA z0 z1 z2 z3 z4 z5 z6
                      have hlcon := lastIn_some b off k d1 M cur j p wA HML.out hm1 hjlt (by omega) hp HOA.out hbA'
                      have hmk : lastI M j p cur < k := Nat.lt_of_lt_of_le hlast (Nat.le_of_eq HML.out)
                      clear hlast
                      generalize lastI M j p cur = m at hlcon hq hmk
                      have HLC : Hid (Calls Try.prog 15 #[.slice (some ⟨b, off, none⟩) k d1, .int .i64 cur, .int .i64 j] wA fun e w' => e = .returned (.int .i64 m) ∧ Below wA.heap.size wA w') := hlcon
                      clear hlcon
                      go_wp2_with fail
                      refine HLC.out.mono ?_
                      rintro e wB ⟨rfl, hbB⟩
                      have HBB : Hid (Below wA.heap.size wA wB) := hbB
                      obtain ⟨y0, y1, y2, y3, y4, y5, y6⟩ := (HOA.out m q hq).below hbB hbA'
                      have hm0 : (0 : Int) ≤ (m : Int) := by omega
                      have hmn : (m : Int) < (k : Int) := by omega
                      clear hbB
                      go_wp2_with fail
                      refine (sameBytes_self q.kp q.kn q.kc wB (by have := HKQ.out.1; unfold maxLen; omega) ((HKQ.out.2.below HBA.out).below HBB.out)).mono ?_
                      rintro e wC ⟨rfl, hbC⟩
                      have HBC : Hid (Below w8'.heap.size w8' wC) := by
                        have k1 : Below wr.heap.size wr wC := HBA.out.trans ((HBB.out.trans (hbC.mono HBB.out.size)).mono HBA.out.size)
                        exact HBJ.out.trans (k1.mono HBJ.out.size)
                      clear hbC y0 y1 y2 y3 y4 y5 y6
                      go_wp2
                      go_roundw
                      case rel => exact ⟨j + 1, by omega, by omega, by go_num, HBC⟩
                      case measure => simp [intOf]; omega
                    · go_wp2
                      go_ret
                      exact ⟨rfl, HB9.out.trans (HBJ.out.mono hz9)⟩

end Go.Proofs.Qxb6616163a
