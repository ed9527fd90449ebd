/-
  The second law's plain part: how often each place comes up.
-/
import Derived.Test.Qxb6614740aMade
namespace Go.Proofs.Qxb6614740a
open Go.RowKit
set_option linter.unusedVariables false

/-- How many of the turns T, T + 1, .., T + k - 1 (each modulo 2^64) fall on place i. -/
def hits (T n i : Nat) : Nat → Nat
  | 0 => 0
  | k + 1 => hits T n i k + if (T + k) % 18446744073709551616 % n = i then 1 else 0

theorem hits_le (T n i k : Nat) : hits T n i k ≤ k := by
  induction k with
  | zero => simp [hits]
  | succ k ih => simp only [hits]; split <;> omega

/-- How many of 0 .. x - 1 have remainder i. -/
theorem hits_eq (T n i k : Nat) (hn : 0 < n) (hi : i < n) (h : T + k ≤ 18446744073709551616) :
    hits T n i k + (T + (n - 1 - i)) / n = (T + k + (n - 1 - i)) / n := by
  induction k with
  | zero => simp [hits]
  | succ k ih =>
    have ih := ih (by omega)
    have hm : (T + k) % 18446744073709551616 = T + k := Nat.mod_eq_of_lt (by omega)
    simp only [hits, hm]
    have key : (T + (k + 1) + (n - 1 - i)) / n = (T + k + (n - 1 - i)) / n + if (T + k) % n = i then 1 else 0 := by
      have e : T + (k + 1) + (n - 1 - i) = (T + k + (n - 1 - i)) + 1 := by omega
      rw [e, Nat.succ_div]
      congr 1
      have hd : n ∣ (T + k + (n - 1 - i)) + 1 ↔ (T + k) % n = i := by
        have e2 : (T + k + (n - 1 - i)) + 1 = T + k + (n - i) := by omega
        rw [e2]
        constructor
        · intro h
          have h1 : (T + k + (n - i)) % n = 0 := Nat.mod_eq_zero_of_dvd h
          have h2 := Nat.mod_lt (T + k) hn
          have h3 := Nat.div_add_mod (T + k) n
          rw [show T + k + (n - i) = ((T + k) % n + (n - i)) + n * ((T + k) / n) by omega, Nat.add_mul_mod_self_left] at h1
          by_cases c : (T + k) % n + (n - i) < n
          · rw [Nat.mod_eq_of_lt c] at h1; omega
          · rw [Nat.mod_eq_sub_mod (by omega), Nat.mod_eq_of_lt (by omega)] at h1
            omega
        · intro h
          have h3 := Nat.div_add_mod (T + k) n
          exact ⟨(T + k) / n + 1, by rw [Nat.mul_add]; omega⟩
      by_cases c : (T + k) % n = i
      · rw [if_pos c, if_pos (hd.2 c)]
      · rw [if_neg c, if_neg (fun h => c (hd.1 h))]
    rw [key]
    omega

/-- The shares lie between the quotient and one more. -/
theorem hits_bounds (T n i k : Nat) (hn : 0 < n) (hi : i < n) (h : T + k ≤ 18446744073709551616) : k / n ≤ hits T n i k ∧ hits T n i k ≤ k / n + 1 := by
  have e := hits_eq T n i k hn hi h
  generalize n - 1 - i = r at e
  have e1 : T + k + r = (T + r) + k := by omega
  rw [e1] at e
  have a1 := Nat.div_add_mod (T + r) n
  have a2 := Nat.div_add_mod k n
  have a3 := Nat.div_add_mod ((T + r) + k) n
  have b1 := Nat.mod_lt (T + r) hn
  have b2 := Nat.mod_lt k hn
  have b3 := Nat.mod_lt ((T + r) + k) hn
  have l1 : (T + r) / n + k / n ≤ ((T + r) + k) / n := by
    rw [Nat.le_div_iff_mul_le hn, Nat.add_mul, Nat.mul_comm _ n, Nat.mul_comm _ n]
    omega
  have l2 : ((T + r) + k) / n ≤ (T + r) / n + k / n + 1 := by
    rw [← Nat.lt_succ_iff, Nat.div_lt_iff_lt_mul hn]
    have : ((T + r) / n + k / n + 1).succ * n = n * ((T + r) / n) + n * (k / n) + 2 * n := by
      rw [Nat.succ_mul, Nat.add_mul, Nat.add_mul, Nat.mul_comm n, Nat.mul_comm n]; omega
    rw [this]; omega
  omega
end Go.Proofs.Qxb6614740a
