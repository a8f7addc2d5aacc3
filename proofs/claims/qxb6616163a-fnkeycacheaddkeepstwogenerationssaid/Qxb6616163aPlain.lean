/-
  Seat b6616163a: the plain laws: no Go in sight: what a script of adds makes of the two maps.
-/
import Derived.Test.Qxb6616163aCalls
import Derived.Test.Qxb6616163aScan2
namespace Go.Proofs.Qxb6616163a
open Go.Maps

theorem ba_ext {a b : ByteArray} (h : a.toList = b.toList) : a = b := by
  rw [ByteArray.toList_eq, ByteArray.toList_eq] at h
  cases a; cases b
  congr 1
  exact Array.toList_inj.1 h

theorem sameId_iff (o p : KOp) : sameId o p = true ↔ o.a = p.a ∧ o.b = p.b ∧ o.c = p.c ∧ o.d = p.d ∧ o.e = p.e ∧ o.f = p.f := by
  unfold sameId
  simp only [Bool.and_eq_true, beq_iff_eq]
  constructor
  · rintro ⟨⟨⟨⟨⟨h0, h1⟩, h2⟩, h3⟩, h4⟩, h5⟩
    exact ⟨ba_ext h0, ba_ext h1, ba_ext h2, ba_ext h3, ba_ext h4, ba_ext h5⟩
  · rintro ⟨h0, h1, h2, h3, h4, h5⟩
    rw [h0, h1, h2, h3, h4, h5]
    simp

theorem kl_iff (o p : KOp) (ho : IdOk o) (hp : IdOk p) : kl o = kl p ↔ sameId o p = true := by
  rw [sameId_iff]
  constructor
  · intro h
    have h1 := keyOf_op o ho
    have h2 := keyOf_op p hp
    rw [h] at h1
    have h3 := law.inj h1 h2
    unfold idVal at h3
    simpa using h3
  · rintro ⟨h0, h1, h2, h3, h4, h5⟩
    unfold kl
    rw [h0, h1, h2, h3, h4, h5]

theorem kl_ne (o p : KOp) (ho : IdOk o) (hp : IdOk p) (h : sameId o p = false) : kl o ≠ kl p := fun e => by
  rw [(kl_iff o p ho hp).1 e] at h; cases h

theorem kl_key (o : KOp) : WideAt.IsKeyLit (kl o) := by unfold kl; trivial

def addAll (D : DataW Value × DataW Value) (L : List KOp) : DataW Value × DataW Value := L.foldl (fun D o => addD D (kl o) (keyVal o)) D
def D0 : DataW Value × DataW Value := (.map [], .map [])

theorem addAll_snoc (D : DataW Value × DataW Value) (L : List KOp) (o : KOp) : addAll D (L ++ [o]) = addD (addAll D L) (kl o) (keyVal o) := by simp [addAll]

theorem size_pos_of_has {D : DataW Value} {k : Lit} (h : has D k = true) : 1 ≤ size D := by
  cases D <;> try (cases h; done)
  rename_i es
  rw [size_eq]
  rw [has_eq] at h
  cases es with
  | nil => cases h
  | cons a r => simp

/-! ### The first law -/
/-- Two tidy maps of at most 512 keys each. -/
def Inv (D : DataW Value × DataW Value) : Prop := Tidy D.1 ∧ Tidy D.2 ∧ size D.1 ≤ 512 ∧ size D.2 ≤ 512

theorem inv0 : Inv D0 := ⟨tidy_empty, tidy_empty, by show 0 ≤ 512; omega, by show 0 ≤ 512; omega⟩

theorem inv_add {D : DataW Value × DataW Value} (h : Inv D) (o : KOp) : Inv (addD D (kl o) (keyVal o)) ∧ 1 ≤ size (addD D (kl o) (keyVal o)).1 ∧ has (addD D (kl o) (keyVal o)).1 (kl o) = true ∧ (∀ z, (addD D (kl o) (keyVal o)).1.atKey (kl o) z = .held (keyVal o)) := by
  obtain ⟨h1, h2, h3, h4⟩ := h
  unfold addD
  split
  · have ht := tidy_empty (H := Value)
    refine ⟨⟨ht.put (kl_key o) _, h1, ?_, h3⟩, ?_, has_put_same isMap_empty (kl_key o) _, fun z => atKey_put_same isMap_empty (kl_key o) _ z⟩
    · rw [size_put ht]; split <;> (simp only [size_eq, List.length_nil]; omega)
    · exact size_pos_of_has (has_put_same isMap_empty (kl_key o) _)
  · refine ⟨⟨h1.put (kl_key o) _, h2, ?_, h4⟩, ?_, has_put_same h1.isMap (kl_key o) _, fun z => atKey_put_same h1.isMap (kl_key o) _ z⟩
    · show size (D.1.put (kl o) (.held (keyVal o))) ≤ 512
      rw [size_put h1]; split <;> omega
    · exact size_pos_of_has (has_put_same h1.isMap (kl_key o) _)

theorem inv_all (L : List KOp) : ∀ D, Inv D → Inv (addAll D L) := by
  induction L with
  | nil => intro D h; exact h
  | cons o L ih => intro D h; exact ih _ (inv_add h o).1

/-- After j more adds of other ids: the key is in the recent map, or in the older one and the recent one has at most j keys. -/
def Kept (k : Lit) (v : Value) (j : Nat) (D : DataW Value × DataW Value) : Prop :=
  Inv D ∧ 1 ≤ size D.1 ∧ ((has D.1 k = true ∧ ∀ z, D.1.atKey k z = .held v) ∨ (has D.1 k = false ∧ has D.2 k = true ∧ (∀ z, D.2.atKey k z = .held v) ∧ size D.1 ≤ j))

theorem kept_step {k : Lit} {v : Value} {j : Nat} {D : DataW Value × DataW Value} (h : Kept k v j D) (hj : j < 512) (o : KOp) (hne : k ≠ kl o) : Kept k v (j + 1) (addD D (kl o) (keyVal o)) := by
  obtain ⟨hi, h1, hk⟩ := h
  obtain ⟨ha, hb, _, _⟩ := inv_add hi o
  refine ⟨ha, hb, ?_⟩
  rcases hk with ⟨hk1, hk2⟩ | ⟨hk1, hk2, hk3, hk4⟩
  · by_cases hs : 512 ≤ size D.1
    · right
      unfold addD
      rw [if_pos hs]
      refine ⟨?_, hk1, hk2, ?_⟩
      · show has ((DataW.map []).put (kl o) (.held (keyVal o))) k = false
        rw [has_put_other hne]; rfl
      · show size ((DataW.map []).put (kl o) (.held (keyVal o))) ≤ j + 1
        rw [size_put tidy_empty]; split <;> (simp only [size_eq, List.length_nil]; omega)
    · left
      unfold addD
      rw [if_neg hs]
      exact ⟨(has_put_other hne _).trans hk1, fun z => (atKey_put_other hne _ z).trans (hk2 z)⟩
  · right
    unfold addD
    rw [if_neg (by omega)]
    refine ⟨(has_put_other hne _).trans hk1, hk2, hk3, ?_⟩
    show size (D.1.put (kl o) (.held (keyVal o))) ≤ j + 1
    rw [size_put hi.1]; split <;> omega

theorem kept_all {k : Lit} {v : Value} : ∀ (post : List KOp) (j : Nat) (D : DataW Value × DataW Value), Kept k v j D → j + post.length ≤ 512 → (∀ o ∈ post, k ≠ kl o) → Kept k v (j + post.length) (addAll D post)
  | [], j, D, h, _, _ => h
  | o :: post, j, D, h, hj, hne => by
    simp only [List.length_cons] at hj ⊢
    have := kept_all post (j + 1) _ (kept_step h (by omega) o (hne o (by simp))) (by omega) (fun p hp => hne p (by simp [hp]))
    rw [show j + (post.length + 1) = j + 1 + post.length by omega]
    exact this

/-- THE FIRST PLAIN LAW. -/
theorem keeps (pre post : List KOp) (y : KOp) (h : post.length ≤ 512) (hne : ∀ o ∈ post, kl y ≠ kl o) : Kept (kl y) (keyVal y) post.length (addAll D0 (pre ++ [y] ++ post)) := by
  have e : addAll D0 (pre ++ [y] ++ post) = addAll (addD (addAll D0 pre) (kl y) (keyVal y)) post := by simp [addAll]
  rw [e]
  obtain ⟨ha, hb, hc, hd⟩ := inv_add (inv_all pre D0 inv0) y
  have := kept_all post 0 _ (⟨ha, hb, .inl ⟨hc, hd⟩⟩ : Kept (kl y) (keyVal y) 0 _) (by omega) hne
  rwa [Nat.zero_add] at this

end Go.Proofs.Qxb6616163a
