/-
  Seat b6616163a: the first law's plain half: which add is the last one of x's id, and what follows it.
-/
import Derived.Test.Qxb6616163aPlain
import Derived.Test.Qxb6616163aClone
namespace Go.Proofs.Qxb6616163a
open Go.Maps

/-- The last index below k whose id is x's; -1: there is none. -/
def lastX (L : List KOp) (x : KOp) : Nat → Int
  | 0 => -1
  | k + 1 => match L[k]? with
    | some p => if sameId p x then (k : Int) else lastX L x k
    | none => lastX L x k
theorem lastX_hit (L : List KOp) (x p : KOp) (k : Nat) (hp : L[k]? = some p) (hs : sameId p x = true) : lastX L x (k + 1) = k := by
  unfold lastX; rw [hp]; simp [hs]
theorem lastX_miss (L : List KOp) (x p : KOp) (k : Nat) (hp : L[k]? = some p) (hs : sameId p x = false) : lastX L x (k + 1) = lastX L x k := by
  conv => lhs; unfold lastX
  rw [hp]; simp [hs]
theorem lastX_bd (L : List KOp) (x : KOp) : ∀ k, -1 ≤ lastX L x k ∧ lastX L x k < k
  | 0 => ⟨by simp [lastX], by simp [lastX]⟩
  | k + 1 => by
    have := lastX_bd L x k
    unfold lastX
    split
    · split <;> omega
    · omega
theorem lastX_spec (L : List KOp) (x : KOp) : ∀ n, n ≤ L.length → (∀ (i : Nat) (p : KOp), L[i]? = some p → lastX L x n < (i : Int) → i < n → sameId p x = false) ∧ (∀ m : Nat, lastX L x n = m → ∀ p, L[m]? = some p → sameId p x = true)
  | 0, _ => ⟨fun i p _ _ h => by omega, fun m h => by simp [lastX] at h⟩
  | k + 1, h => by
    obtain ⟨ih1, ih2⟩ := lastX_spec L x k (by omega)
    obtain ⟨q, hq⟩ : ∃ q, L[k]? = some q := ⟨L[k], List.getElem?_eq_getElem (by omega)⟩
    cases hs : sameId q x with
    | true =>
      rw [lastX_hit L x q k hq hs]
      refine ⟨fun i p _ h1 h2 => by omega, fun m hm p hp => ?_⟩
      obtain rfl : k = m := by omega
      rw [hq] at hp
      injection hp with hp
      rw [← hp]; exact hs
    | false =>
      rw [lastX_miss L x q k hq hs]
      refine ⟨fun i p hp h1 h2 => ?_, ih2⟩
      by_cases hik : i < k
      · exact ih1 i p hp h1 hik
      · obtain rfl : i = k := by omega
        rw [hq] at hp
        injection hp with hp
        rw [← hp]; exact hs

theorem ids_same {o p : KOp} (h : idsOf o = idsOf p) : o.a = p.a ∧ o.b = p.b ∧ o.c = p.c ∧ o.d = p.d ∧ o.e = p.e ∧ o.f = p.f := by
  unfold idsOf at h
  simp only [List.cons.injEq, and_true] at h
  obtain ⟨h0, h1, h2, h3, h4, h5⟩ := h
  exact ⟨ba_ext h0, ba_ext h1, ba_ext h2, ba_ext h3, ba_ext h4, ba_ext h5⟩

theorem ids_at {M L : List KOp} (h : M.map idsOf = L.map idsOf) {i : Nat} {o : KOp} (ho : M[i]? = some o) : ∃ p, L[i]? = some p ∧ idsOf o = idsOf p := by
  have e : (M.map idsOf)[i]? = (L.map idsOf)[i]? := by rw [h]
  rw [List.getElem?_map, List.getElem?_map, ho] at e
  obtain ⟨p, hp, he⟩ := Option.map_eq_some_iff.1 e.symm
  exact ⟨p, hp, he.symm⟩

/-- What is asked of an id: strings that Go can hold, and that can be cloned. -/
def IdFit (o : KOp) : Prop := IdOk o ∧ ∀ s ∈ [o.d, o.e, o.f], s.size ≤ 281474976710656

theorem idFit_of {o p : KOp} (h : idsOf o = idsOf p) (hp : IdFit p) : IdFit o := by
  obtain ⟨h0, h1, h2, h3, h4, h5⟩ := ids_same h
  unfold IdFit IdOk at *
  rw [h0, h1, h2, h3, h4, h5]
  exact hp
theorem idFit_all {M L : List KOp} (h : M.map idsOf = L.map idsOf) (hL : ∀ o ∈ L, IdFit o) : ∀ o ∈ M, IdFit o := fun o ho => by
  obtain ⟨i, hi, rfl⟩ := List.getElem_of_mem ho
  obtain ⟨p, hp, he⟩ := ids_at h (List.getElem?_eq_getElem hi)
  exact idFit_of he (hL p (List.mem_of_getElem? hp))

theorem sameId_ids {o p o' p' : KOp} (h1 : idsOf o = idsOf o') (h2 : idsOf p = idsOf p') : sameId o p = sameId o' p' := by
  obtain ⟨a0, a1, a2, a3, a4, a5⟩ := ids_same h1
  obtain ⟨b0, b1, b2, b3, b4, b5⟩ := ids_same h2
  unfold sameId
  rw [a0, a1, a2, a3, a4, a5, b0, b1, b2, b3, b4, b5]

/-- WHERE THE LAST ADD OF x's ID STANDS, AND WHAT FOLLOWS IT. -/
theorem split_last (M1 M2 L2 : List KOp) (x x' : KOp) (n2 : Nat) (hL : L2.length = n2) (hM : M2.map idsOf = L2.map idsOf) (hx : idsOf x' = idsOf x) (hg : (n2 : Int) - 1 - lastX L2 x n2 ≤ 512)
    (ok : ∀ o ∈ M2, IdFit o) (okx : IdFit x') :
    (lastX L2 x n2 < 0 → Kept (kl x') (keyVal x') M2.length (addAll D0 (M1 ++ [x'] ++ M2))) ∧
    (∀ m : Nat, lastX L2 x n2 = m → ∀ y, M2[m]? = some y → ∃ j, Kept (kl x') (keyVal y) j (addAll D0 (M1 ++ [x'] ++ M2))) := by
  have hM2 : M2.length = n2 := by
    have := congrArg List.length hM
    simpa [hL] using this
  obtain ⟨s1, s2⟩ := lastX_spec L2 x n2 (by omega)
  have hother : ∀ (i : Nat) (o : KOp), M2[i]? = some o → lastX L2 x n2 < (i : Int) → sameId o x' = false := fun i o ho hi => by
    obtain ⟨p, hp, he⟩ := ids_at hM ho
    rw [sameId_ids he hx]
    exact s1 i p hp hi (by have := (List.getElem?_eq_some_iff.1 ho).1; omega)
  constructor
  · intro hneg
    have hb := lastX_bd L2 x n2
    refine keeps M1 M2 x' (by omega) (fun o ho => ?_)
    obtain ⟨i, hi, rfl⟩ := List.getElem_of_mem ho
    have h1 := hother i _ (List.getElem?_eq_getElem hi) (by omega)
    exact Ne.symm (kl_ne _ _ (ok _ ho).1 okx.1 h1)
  · intro m hm y hy
    have hmn : m < M2.length := (List.getElem?_eq_some_iff.1 hy).1
    have hsy : sameId y x' = true := by
      obtain ⟨p, hp, he⟩ := ids_at hM hy
      rw [sameId_ids he hx]
      exact s2 m hm p hp
    have hky : kl y = kl x' := (kl_iff y x' (ok y (List.mem_of_getElem? hy)).1 okx.1).2 hsy
    have hsplit : M2 = M2.take m ++ [y] ++ M2.drop (m + 1) := by
      have e1 : M2.take (m + 1) = M2.take m ++ [y] := by rw [List.take_add_one, hy]; rfl
      rw [← e1, List.take_append_drop]
    refine ⟨(M2.drop (m + 1)).length, ?_⟩
    rw [← hky]
    have e2 : M1 ++ [x'] ++ M2 = (M1 ++ [x'] ++ M2.take m) ++ [y] ++ M2.drop (m + 1) := by
      conv => lhs; rw [hsplit]
      simp
    rw [e2]
    refine keeps (M1 ++ [x'] ++ M2.take m) (M2.drop (m + 1)) y ?_ (fun o ho => ?_)
    · rw [List.length_drop]; omega
    · obtain ⟨i, hi, rfl⟩ := List.getElem_of_mem ho
      have h0 : M2[m + 1 + i]? = some (M2.drop (m + 1))[i] := by
        rw [← List.getElem?_drop]; exact List.getElem?_eq_getElem hi
      have h1 := hother (m + 1 + i) _ h0 (by omega)
      have hmem := List.mem_of_getElem? h0
      rw [hky]
      exact Ne.symm (kl_ne _ _ (ok _ hmem).1 okx.1 h1)

end Go.Proofs.Qxb6616163a
