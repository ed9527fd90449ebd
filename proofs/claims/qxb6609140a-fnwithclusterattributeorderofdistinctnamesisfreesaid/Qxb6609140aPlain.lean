/-
  The plain law: what the pairs (K i, V i), i below n, answer at a key: the last one; how many different keys there are. No Go in sight.
-/
namespace Go.Proofs.Qxb6609140a

/-- Is the text among the first n? -/
def inTo (K : Nat → ByteArray) (s : ByteArray) : Nat → Bool
  | 0 => false
  | n + 1 => ((K n).toList == s.toList) || inTo K s n
/-- The value at the last of the first n pairs whose key is s. -/
def lastTo (K V : Nat → ByteArray) (s : ByteArray) : Nat → Option ByteArray
  | 0 => none
  | n + 1 => if (K n).toList == s.toList then some (V n) else lastTo K V s n
/-- How many different texts there are among the first n. -/
def distTo (K : Nat → ByteArray) : Nat → Nat
  | 0 => 0
  | n + 1 => if inTo K (K n) n then distTo K n else distTo K n + 1

theorem last_in (K V : Nat → ByteArray) (s : ByteArray) : ∀ n, (lastTo K V s n).isSome = inTo K s n
  | 0 => rfl
  | n + 1 => by
    unfold lastTo inTo
    cases h : ((K n).toList == s.toList) <;> simp [last_in K V s n]

theorem dist_le (K : Nat → ByteArray) : ∀ n, distTo K n ≤ n
  | 0 => Nat.le_refl _
  | n + 1 => by
    have := dist_le K n
    unfold distTo
    split <;> omega

theorem in_of (K : Nat → ByteArray) (s : ByteArray) (i : Nat) (h : ((K i).toList == s.toList) = true) : ∀ n, i < n → inTo K s n = true
  | 0, h0 => by omega
  | n + 1, h0 => by
    unfold inTo
    by_cases e : i = n
    · subst e; simp [h]
    · simp [in_of K s i h n (by omega)]
end Go.Proofs.Qxb6609140a
