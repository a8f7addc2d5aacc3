/-
  Seat b6616163a: the words of the proofs: a KeyOp as a plain structure.
-/
import Derived.Test.Qxb6616163aProg
import Derived.WalkKit
import Derived.WalkSpells
import Derived.WalkLawsBesides
namespace Go.Proofs.Qxb6616163a
open Go.RowKit

/-- A KeyOp's value, field by field: six strings and the key's slice. -/
structure KOp where
  a : ByteArray
  b : ByteArray
  c : ByteArray
  d : ByteArray
  e : ByteArray
  f : ByteArray
  kp : Option Addr
  kn : Nat
  kc : Nat

def sameId (o p : KOp) : Bool := o.a.toList == p.a.toList && o.b.toList == p.b.toList && o.c.toList == p.c.toList && o.d.toList == p.d.toList && o.e.toList == p.e.toList && o.f.toList == p.f.toList

theorem ret_bool {a b : Bool} (h : a = b) : Ending.returned (.bool a) = .returned (.bool b) := by rw [h]
theorem ret_int {k : IntKind} {a b : Int} (h : a = b) : Ending.returned (.int k a) = .returned (.int k b) := by rw [h]

theorem same_any (o p : KOp) (w : World) :
    Calls Try.prog 19 #[.agg #[.string o.a, .string o.b, .string o.c, .string o.d, .string o.e, .string o.f, .slice o.kp o.kn o.kc], .agg #[.string p.a, .string p.b, .string p.c, .string p.d, .string p.e, .string p.f, .slice p.kp p.kn p.kc]] w
      fun e w' => e = .returned (.bool (sameId o p)) ∧ w' = (w.alloc (.cells #[.string o.a, .string o.b, .string o.c, .string o.d, .string o.e, .string o.f, .slice o.kp o.kn o.kc] 29)).alloc (.cells #[.string p.a, .string p.b, .string p.c, .string p.d, .string p.e, .string p.f, .slice p.kp p.kn p.kc] 29) := by
  go_enter Try.func19, Try.ntmps19
  go_wp2
  all_goals go_ret
  all_goals exact ⟨ret_bool (by simp [sameId, *]), rfl⟩

/-! ### addLen, keyOpBytes: a running size that stays between 0 and 1<<21 -/
theorem addLen_any (t n : Int) (w : World) (h0 : 0 ≤ t) (h1 : t ≤ 2097152) (n0 : 0 ≤ n) :
    Calls Try.prog 24 #[.int .i64 t, .int .i64 n] w fun e w' => (∃ r : Int, e = .returned (.int .i64 r) ∧ 0 ≤ r ∧ r ≤ 2097152) ∧ w' = w := by
  go_enter Try.func24, Try.ntmps24
  go_wp2
  all_goals go_ret
  all_goals exact ⟨⟨_, rfl, by omega, by omega⟩, rfl⟩

set_option maxHeartbeats 800000 in
theorem keyOpBytes_any (t : Int) (o : KOp) (w : World) (h0 : 0 ≤ t) (h1 : t ≤ 2097152) :
    Calls Try.prog 18 #[.int .i64 t, .agg #[.string o.a, .string o.b, .string o.c, .string o.d, .string o.e, .string o.f, .slice o.kp o.kn o.kc]] w
      fun e w' => (∃ r : Int, e = .returned (.int .i64 r) ∧ 0 ≤ r ∧ r ≤ 2097152) ∧ w' = w.alloc (.cells #[.string o.a, .string o.b, .string o.c, .string o.d, .string o.e, .string o.f, .slice o.kp o.kn o.kc] 29) := by
  go_enter Try.func18, Try.ntmps18
  go_wp2_with (go_at_call 24; refine (addLen_any _ _ _ (by omega) (by omega) (by omega)).mono ?_; rintro e w' ⟨⟨r, rfl, hr0, hr1⟩, rfl⟩)
  go_ret
  exact ⟨⟨_, rfl, by assumption, by assumption⟩, rfl⟩

/-! ### sameBytes of a slice with itself -/
/-- A slice of bytes that can be read, in a block from B on. -/
def BytesAt (B : Nat) (w : World) (p : Option Addr) (n : Nat) : Prop := n = 0 ∨ ∃ (b off : Nat) (xs : List Int), B ≤ b ∧ p = some ⟨b, off, none⟩ ∧ xs.length = n ∧ ∀ j x, xs[j]? = some x → w.cell? ⟨b, off + j, none⟩ = some (.int .u8 x)

end Go.Proofs.Qxb6616163a
