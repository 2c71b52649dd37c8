import Derived.WalkSpells
/-! The plain side: what the signing text is, over lists and byte arrays. No program here. -/
namespace Go.Proofs.Qxb6619049aFmt
namespace Plain

/-- The bytes that a look-up gives: the value, or the empty string. -/
def val (M : ByteArray → Option ByteArray) (x : ByteArray) : ByteArray := (M x).getD ⟨#[]⟩
def has (M : ByteArray → Option ByteArray) (x : ByteArray) : Bool := (M x).isSome

/-- What zzLookupsOver adds up. -/
def cost (M : ByteArray → Option ByteArray) : List ByteArray → Nat
  | [] => 0
  | x :: r => 8 + x.size + (val M x).size + cost M r

theorem cost_append (M : ByteArray → Option ByteArray) (a b : List ByteArray) : cost M (a ++ b) = cost M a + cost M b := by
  induction a with
  | nil => simp [cost]
  | cons x r ih => simp only [List.cons_append, cost, ih]; omega

theorem cost_take_succ (M : ByteArray → Option ByteArray) (xs : List ByteArray) (k : Nat) (x : ByteArray) (h : xs[k]? = some x) :
    cost M (xs.take (k + 1)) = cost M (xs.take k) + 8 + x.size + (val M x).size := by
  rw [List.take_add_one, h, cost_append]
  simp [cost]; omega

theorem cost_take_le (M : ByteArray → Option ByteArray) (xs : List ByteArray) (k : Nat) : cost M (xs.take k) ≤ cost M xs := by
  have h := cost_append M (xs.take k) (xs.drop k)
  rw [List.take_append_drop] at h
  omega

theorem cost_drop_le (M : ByteArray → Option ByteArray) (xs : List ByteArray) (k : Nat) : cost M (xs.drop k) ≤ cost M xs := by
  have h := cost_append M (xs.take k) (xs.drop k)
  rw [List.take_append_drop] at h
  omega

theorem cost_len (M : ByteArray → Option ByteArray) (xs : List ByteArray) : 8 * xs.length ≤ cost M xs := by
  induction xs with
  | nil => simp [cost]
  | cons x r ih => simp only [List.length_cons, cost]; omega

end Plain
end Go.Proofs.Qxb6619049aFmt
