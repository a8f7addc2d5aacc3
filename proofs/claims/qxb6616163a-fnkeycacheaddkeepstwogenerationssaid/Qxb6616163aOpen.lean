/-
  Seat b6616163a: how an argument reads: a KeyOp, a slice of KeyOps.
-/
import Derived.Test.Qxb6616163aLaw1
import Derived.Deep.Slices
import Derived.OpenShut
import Derived.SizedLaws
import Derived.ProofKit
namespace Go.Proofs.Qxb6616163a
open Go.RowKit Go.Maps Go.Deep

theorem cells29 : Try.prog.cellsOf 29 = 7 := by kernel_rfl
theorem cells27 : Try.prog.cellsOf 27 = 1 := by kernel_rfl
theorem cells5 : Try.prog.cellsOf 5 = 1 := by kernel_rfl
theorem bytes5 : Try.prog.bytesOf 5 = 1 := by kernel_rfl

theorem len7 {α : Type} : ∀ (l : List α), l.length = 7 → ∃ a b c d e f g, l = [a, b, c, d, e, f, g]
  | [a, b, c, d, e, f, g], _ => ⟨a, b, c, d, e, f, g, rfl⟩

theorem list_of {P : Nat → KOp → Prop} : ∀ n, (∀ i, i < n → ∃ o, P i o) → ∃ L : List KOp, L.length = n ∧ ∀ i o, L[i]? = some o → P i o
  | 0, _ => ⟨[], rfl, fun i o h => by simp at h⟩
  | n + 1, h => by
    obtain ⟨L, hl, hL⟩ := list_of n (fun i hi => h i (by omega))
    obtain ⟨o, ho⟩ := h n (by omega)
    refine ⟨L ++ [o], by simp [hl], fun i q hq => ?_⟩
    by_cases hi : i < n
    · rw [List.getElem?_append_left (by omega)] at hq
      exact hL i q hq
    · rw [List.getElem?_append_right (by omega)] at hq
      have h0 : i - L.length = 0 := by
        have := (List.getElem?_eq_some_iff.1 hq).1
        simp at this; omega
      rw [h0] at hq
      simp at hq
      subst hq
      obtain rfl : i = n := by omega
      exact ho

theorem each_mem {H : Type} {P : Program} {ts : List TypeId} {ds : List (DataW H)} {j : Nat} {t : TypeId} {d : DataW H} (ht : ts[j]? = some t) (hd : ds[j]? = some d) (hw : ∀ m ∈ DataW.weightsEach P ts ds, m ≤ reachBytes) : ∀ m ∈ d.weights P t, m ≤ reachBytes :=
  fun m hm => hw m (DataW.weights_mem_each ht hd m hm)
theorem all_mem {H : Type} {P : Program} {e : TypeId} {d : DataW H} : ∀ {ds : List (DataW H)}, d ∈ ds → ∀ m ∈ d.weights P e, m ∈ DataW.weightsAll P e ds
  | x :: r, h, m, hm => by
    rw [DataW.weightsAll, List.mem_append]
    rcases List.mem_cons.1 h with rfl | h
    · exact .inl hm
    · exact .inr (all_mem h m hm)

theorem str_fit {H : Type} {s : ByteArray} (hw : ∀ m ∈ (DataW.lit (H := H) (.string s.data.toList)).weights Try.prog 9, m ≤ reachBytes) : s.size ≤ 281474976710656 := by
  have h := hw s.data.toList.length (by simp [DataW.weights])
  have hr := reachBytes_lt
  have e : s.size = s.data.toList.length := by cases s; simp [ByteArray.size]
  omega

section
variable {H : Type} {enc : TypeId × Value → H} {W : World}

set_option maxHeartbeats 1000000 in
theorem open_op {n : Nat} {cs : List Value} {d : DataW H} {pl : List MemPlace} (h : DataW.trod enc Try.prog W 0 (fun _ => true) true n 29 cs = some (d, pl)) (hw : ∀ m ∈ d.weights Try.prog 29, m ≤ reachBytes) :
    ∃ o : KOp, cs = o.cells ∧ OpOk W o := by
  obtain ⟨xs, n', _, hx, hcl, hxl, hf⟩ := DataW.trod_struct Try.underlying29 h
  rw [cells29] at hcl
  obtain ⟨c0, c1, c2, c3, c4, c5, c6, rfl⟩ := len7 cs hcl
  obtain ⟨x0, x1, x2, x3, x4, x5, x6, rfl⟩ := len7 xs hxl
  have t0 := hf 0 _ rfl
  have t1 := hf 1 _ rfl
  have t2 := hf 2 _ rfl
  have t3 := hf 3 _ rfl
  have t4 := hf 4 _ rfl
  have t5 := hf 5 _ rfl
  have t6 := hf 6 _ rfl
  simp [cells9, cells27] at t0 t1 t2 t3 t4 t5 t6
  simp only [Prod.mk.injEq] at hx
  obtain ⟨rfl, _⟩ := hx
  simp only [DataW.weights, Try.underlying29] at hw
  obtain ⟨s0, e0, rfl, l0⟩ := DataW.trod_string Try.underlying9 t0
  obtain ⟨s1, e1, rfl, l1⟩ := DataW.trod_string Try.underlying9 t1
  obtain ⟨s2, e2, rfl, l2⟩ := DataW.trod_string Try.underlying9 t2
  obtain ⟨s3, e3, rfl, l3⟩ := DataW.trod_string Try.underlying9 t3
  obtain ⟨s4, e4, rfl, l4⟩ := DataW.trod_string Try.underlying9 t4
  obtain ⟨s5, e5, rfl, l5⟩ := DataW.trod_string Try.underlying9 t5
  simp at e0 e1 e2 e3 e4 e5
  subst e0 e1 e2 e3 e4 e5
  have w3 := str_fit (each_mem (j := 3) (t := 9) rfl rfl hw)
  have w4 := str_fit (each_mem (j := 4) (t := 9) rfl rfl hw)
  have w5 := str_fit (each_mem (j := 5) (t := 9) rfl rfl hw)
  have fit : ∀ (kp : Option Addr) (kn kc : Nat), IdFit ⟨s0, s1, s2, s3, s4, s5, kp, kn, kc⟩ := fun kp kn kc => ⟨⟨l0, l1, l2, l3, l4, l5⟩, by simp; exact ⟨w3, w4, w5⟩⟩
  rcases Go.ChangeShapes.open_ints Try.underlying27 Try.underlying5 cells5 t6 with ⟨hcs, _⟩ | ⟨a, len, cap, zs, hcs, _, hl, hm, hz, hx6, hcell, _⟩
  · simp at hcs
    subst hcs
    exact ⟨⟨s0, s1, s2, s3, s4, s5, none, 0, 0⟩, rfl, fit _ _ _, Nat.zero_le _, .inl rfl⟩
  · simp at hcs
    subst hcs
    simp only [if_true] at hz
    refine ⟨⟨s0, s1, s2, s3, s4, s5, some a, len, cap⟩, rfl, fit _ _ _, ?_, ?_⟩
    · have h6 := each_mem (j := 6) (t := 27) (d := x6.1) rfl rfl hw
      rw [hx6] at h6
      have h7 := h6 (zs.length * 1) (by
        simp only [DataW.weights, Try.underlying27, bytes5]
        simp [Go.ChangeShapes.lits]
        omega)
      have hr := reachBytes_lt
      show len ≤ 140737488355328
      omega
    · by_cases hlen : len = 0
      · exact .inl hlen
      · obtain ⟨b, off, rfl, hc⟩ := ints_at hcell (by omega)
        refine .inr ⟨b, off, zs.take len, Nat.zero_le _, rfl, by simp; omega, fun j x hx => ?_⟩
        have hj : j < len := by
          have := (List.getElem?_eq_some_iff.1 hx).1
          simp at this; omega
        rw [hc j (by omega)]
        rw [List.getElem?_take, if_pos hj] at hx
        simp [List.getD, hx]

/-- A slice of KeyOps that came in. -/
theorem open_ops {v : Value} {d : DataW H} {p : List MemPlace} {a0 : Option Addr} {len0 cap0 : Nat} (hv : v = .slice a0 len0 cap0) (h : DataW.Trod enc Try.prog W 0 (fun _ => true) true 22 v d p) (hw : ∀ m ∈ d.weights Try.prog 22, m ≤ reachBytes) :
    len0 ≤ maxLen ∧ ∃ L : List KOp, SliceOps W a0 len0 L ∧ ∀ o ∈ L, OpOk W o := by
  subst hv
  obtain ⟨fuel, hf⟩ := h
  rcases open_slice Try.underlying22 hf with ⟨hcs, _⟩ | ⟨a, len, cap, m, n, D, Pl, hcs, _, hl, hm, hmm, hx, hel⟩
  · simp [Value.cells] at hcs
    obtain ⟨rfl, rfl, rfl⟩ := hcs
    exact ⟨Nat.zero_le _, [], ⟨rfl, .inl rfl⟩, fun o ho => by cases ho⟩
  · simp [Value.cells] at hcs
    obtain ⟨rfl, rfl, rfl⟩ := hcs
    simp only [if_true] at hmm
    subst hmm
    simp only [Prod.mk.injEq] at hx
    obtain ⟨rfl, _⟩ := hx
    refine ⟨Nat.le_trans hl hm, ?_⟩
    rw [cells29] at hel
    simp only [DataW.weights, Try.underlying22, List.mem_cons, List.mem_append] at hw
    have hone : ∀ i, i < len0 → ∃ o : KOp, (W.cells? 0 (a.add (i * 7)) 7 = some o.cells) ∧ OpOk W o := fun i hi => by
      obtain ⟨cs', h1, h2⟩ := hel i (by omega)
      obtain ⟨o, ho, hok⟩ := open_op h2 (fun q hq => hw q (.inr (.inl (all_mem (List.mem_map.2 ⟨i, List.mem_range.2 hi, rfl⟩) q hq))))
      exact ⟨o, by rw [h1, ho], hok⟩
    obtain ⟨L, hL, hP⟩ := list_of len0 hone
    refine ⟨L, ⟨hL, ?_⟩, fun o ho => ?_⟩
    · by_cases h0 : len0 = 0
      · exact .inl h0
      · right
        have hfirst : ∃ u, W.cell? (a.add 0) = some u := by
          obtain ⟨o, h1, _⟩ := hone 0 (by omega)
          obtain ⟨_, _, hc⟩ := World.cells?_some h1
          have := hc 0 (by omega)
          rw [add_add] at this
          exact ⟨.string o.a, this⟩
        obtain ⟨b, off, spot⟩ := a
        have hspot : spot = none := by
          obtain ⟨u, hu⟩ := hfirst
          simpa [Addr.add] using World.cell?_spot hu
        subst hspot
        refine ⟨b, off, rfl, fun i o ho => ?_⟩
        obtain ⟨h1, _⟩ := hP i o ho
        obtain ⟨_, _, hc⟩ := World.cells?_some h1
        have hcc : ∀ j, j < 7 → W.cell? ⟨b, off + i * 7 + j, none⟩ = o.cells[j]? := fun j hj => by
          have := hc j hj
          rwa [Addr.add_mid, Addr.add_mid] at this
        exact ⟨hcc 0 (by omega), hcc 1 (by omega), hcc 2 (by omega), hcc 3 (by omega), hcc 4 (by omega), hcc 5 (by omega), hcc 6 (by omega)⟩
    · obtain ⟨i, hi, rfl⟩ := List.getElem_of_mem ho
      exact (hP i _ (List.getElem?_eq_getElem hi)).2

/-- A KeyOp that came in by value. -/
theorem open_op_arg {base : Nat} {v : Value} {d : DataW H} {p : List MemPlace} (hv : Value.okWide Try.prog W .any base 29 v) (h : DataW.Trod enc Try.prog W 0 (fun _ => true) true 29 v d p) (hw : ∀ m ∈ d.weights Try.prog 29, m ≤ reachBytes) :
    ∃ o : KOp, v = .agg #[.string o.a, .string o.b, .string o.c, .string o.d, .string o.e, .string o.f, .slice o.kp o.kn o.kc] ∧ OpOk W o := by
  obtain ⟨cs, rfl, hsz⟩ := Go.WideShapes.okWide_struct Try.underlying29 hv
  obtain ⟨fuel, hf⟩ := h
  obtain ⟨o, ho, hok⟩ := open_op hf hw
  refine ⟨o, ?_, hok⟩
  have : cs.toList = o.cells := by simpa [Value.cells] using ho
  congr 1
  apply Array.toList_inj.1
  rw [this]
  rfl

end

end Go.Proofs.Qxb6616163a
