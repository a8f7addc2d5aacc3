/-
  Seat b6616163a: the second plain law: the recent map is the map of the last generation, the older one of the generation before it.
-/
import Derived.Test.Qxb6616163aPlain
namespace Go.Proofs.Qxb6616163a
open Go.Maps

/-- D is the map of L[lo:hi]: as many keys as there are distinct ids; just those ids; each with the key of its last add. -/
def GenMap (L : List KOp) (lo hi : Nat) (D : DataW Value) : Prop :=
  Tidy D ∧ size D = dcount L lo hi ∧ (∀ o, IdOk o → has D (kl o) = seen L lo hi o) ∧
  (∀ i o, lo ≤ i → i < hi → L[i]? = some o → ∃ q, L[lastI L i o hi]? = some q ∧ ∀ z, D.atKey (kl o) z = .held (keyVal q))

theorem gen_empty (L : List KOp) (lo : Nat) : GenMap L lo lo (.map []) := by
  refine ⟨tidy_empty, ?_, fun o _ => ?_, fun i o h1 h2 => by omega⟩
  · rw [dcount_le L lo lo (Nat.le_refl _)]; rfl
  · rw [seen_same]; rfl

theorem gen_step {L : List KOp} {lo hi : Nat} {D : DataW Value} (h : GenMap L lo hi D) (hle : lo ≤ hi) (hok : ∀ o ∈ L, IdOk o) (o : KOp) (ho : L[hi]? = some o) : GenMap L lo (hi + 1) (D.put (kl o) (.held (keyVal o))) := by
  obtain ⟨h1, h2, h3, h4⟩ := h
  have hoo : IdOk o := hok o (List.mem_of_getElem? ho)
  refine ⟨h1.put (kl_key o) _, ?_, fun p hp => ?_, fun i p hi1 hi2 hp => ?_⟩
  · rw [size_put h1, h3 o hoo]
    cases hs : seen L lo hi o with
    | true => rw [if_pos rfl, dcount_old L lo hi o hle ho hs, h2]
    | false => rw [if_neg (by simp), dcount_new L lo hi o hle ho hs, h2]
  · rw [seen_succ L lo hi p o hle ho]
    cases hs : sameId o p with
    | true =>
      have e := (kl_iff o p hoo hp).2 hs
      rw [← e, has_put_same h1.isMap (kl_key o)]
      simp
    | false =>
      rw [has_put_other (Ne.symm (kl_ne o p hoo hp hs)), h3 p hp]
      simp
  · have hpp : IdOk p := hok p (List.mem_of_getElem? hp)
    by_cases hih : i < hi
    · cases hs : sameId o p with
      | true =>
        have e := (kl_iff o p hoo hpp).2 hs
        refine ⟨o, ?_, fun z => ?_⟩
        · rw [lastI_hit L i hi p o hih ho hs]; exact ho
        · rw [← e]; exact atKey_put_same h1.isMap (kl_key o) _ z
      | false =>
        obtain ⟨q, hq1, hq2⟩ := h4 i p hi1 hih hp
        refine ⟨q, ?_, fun z => ?_⟩
        · rw [lastI_miss L i hi p o ho hs]; exact hq1
        · rw [atKey_put_other (Ne.symm (kl_ne o p hoo hpp hs))]; exact hq2 z
    · obtain rfl : i = hi := by omega
      rw [ho] at hp
      injection hp with hp
      subst hp
      refine ⟨o, ?_, fun z => atKey_put_same h1.isMap (kl_key o) _ z⟩
      rw [lastI_low L i o (i + 1) (Nat.le_refl _)]; exact ho

/-- Where the generations stand after k adds: the last one opened at cur, the one before it at prev (-1: there is none). -/
def Gen (L : List KOp) (k : Nat) (prev : Int) (cur : Nat) : Prop :=
  cur ≤ k ∧ GenMap L cur k (addAll D0 (L.take k)).1 ∧
  ((prev = -1 ∧ (addAll D0 (L.take k)).2 = .map []) ∨ ∃ q : Nat, prev = q ∧ q ≤ cur ∧ GenMap L q cur (addAll D0 (L.take k)).2)

theorem gen0 (L : List KOp) : Gen L 0 (-1) 0 := ⟨Nat.le_refl _, gen_empty L 0, .inl ⟨rfl, rfl⟩⟩

theorem take_next {L : List KOp} {k : Nat} {o : KOp} (ho : L[k]? = some o) : addAll D0 (L.take (k + 1)) = addD (addAll D0 (L.take k)) (kl o) (keyVal o) := by
  rw [List.take_add_one, ho]
  exact addAll_snoc D0 (L.take k) o

theorem gen_rotate {L : List KOp} {k : Nat} {prev : Int} {cur : Nat} (h : Gen L k prev cur) (hok : ∀ o ∈ L, IdOk o) (o : KOp) (ho : L[k]? = some o) (hd : 512 ≤ dcount L cur k) : Gen L (k + 1) cur k := by
  obtain ⟨h1, h2, _⟩ := h
  have e : addAll D0 (L.take (k + 1)) = ((DataW.map []).put (kl o) (.held (keyVal o)), (addAll D0 (L.take k)).1) := by
    rw [take_next ho]
    unfold addD
    rw [if_pos (by rw [h2.2.1]; exact hd)]
  refine ⟨Nat.le_succ _, ?_, .inr ⟨cur, rfl, h1, ?_⟩⟩
  · rw [e]; exact gen_step (gen_empty L k) (Nat.le_refl _) hok o ho
  · rw [e]; exact h2

theorem gen_stay {L : List KOp} {k : Nat} {prev : Int} {cur : Nat} (h : Gen L k prev cur) (hok : ∀ o ∈ L, IdOk o) (o : KOp) (ho : L[k]? = some o) (hd : ¬ 512 ≤ dcount L cur k) : Gen L (k + 1) prev cur := by
  obtain ⟨h1, h2, h3⟩ := h
  have e : addAll D0 (L.take (k + 1)) = ((addAll D0 (L.take k)).1.put (kl o) (.held (keyVal o)), (addAll D0 (L.take k)).2) := by
    rw [take_next ho]
    unfold addD
    rw [if_neg (by rw [h2.2.1]; exact hd)]
  refine ⟨Nat.le_succ_of_le h1, ?_, ?_⟩
  · rw [e]; exact gen_step h2 h1 hok o ho
  · rw [e]; exact h3

/-- What the map of a generation tells of one of its adds. -/
theorem gen_look {L : List KOp} {lo hi : Nat} {D : DataW Value} (h : GenMap L lo hi D) (hok : ∀ o ∈ L, IdOk o) (i : Nat) (o : KOp) (h1 : lo ≤ i) (h2 : i < hi) (ho : L[i]? = some o) :
    has D (kl o) = true ∧ lastI L i o hi < L.length ∧ ∃ q, L[lastI L i o hi]? = some q ∧ D.atKey (kl o) (.held zero62) = .held (keyVal q) := by
  obtain ⟨q, hq1, hq2⟩ := h.2.2.2 i o h1 h2 ho
  refine ⟨?_, (List.getElem?_eq_some_iff.1 hq1).1, q, hq1, hq2 _⟩
  rw [h.2.2.1 o (hok o (List.mem_of_getElem? ho))]
  refine seen_of L lo hi i o o h1 h2 ho ?_
  rw [sameId_iff]
  simp

end Go.Proofs.Qxb6616163a
