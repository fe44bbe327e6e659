/-
  THE PLAIN LAWS OF THE REPEATED LIST: no Go in sight.
-/
import Derived.Test.Qxb6617156aPlain
namespace Go.Proofs.Qxb6617156a.plain

theorem div_mid (i j Q : Nat) (h : j < Q) : (i * Q + j) / Q = i := by
  rw [Nat.add_comm, Nat.add_mul_div_right _ _ (by omega), Nat.div_eq_of_lt h, Nat.zero_add]

theorem fits (i j Q len : Nat) (hi : i < len) (hj : j < Q) : i * Q + j + 1 ≤ len * Q := by
  have h1 : (i + 1) * Q ≤ len * Q := Nat.mul_le_mul_right Q hi
  rw [Nat.add_mul, Nat.one_mul] at h1
  omega

theorem next (i Q : Nat) : i * Q + Q = (i + 1) * Q := by rw [Nat.add_mul, Nat.one_mul]

theorem mul_le (Q len : Nat) (h : (Q : Int) ≤ 131072 / (len : Int)) : len * Q ≤ 131072 := by
  have h2 : Q ≤ 131072 / len := by
    have e : (131072 : Int) / (len : Int) = ((131072 / len : Nat) : Int) := by simp
    rw [e] at h; exact Int.ofNat_le.1 h
  have h3 := Nat.mul_le_mul_left len h2
  have h4 := Nat.mul_div_le 131072 len
  omega

/-- The place in the repeated list lies over the place in the list. -/
theorem place_rep (p : Int) (n Q K K2 : Nat) (hQ : 1 ≤ Q) (h1 : p * (n : Int) ≤ 100 * ((K : Int) + 1)) (h2 : 100 * (K : Int) < p * (n : Int))
    (h3 : p * ((n * Q : Nat) : Int) ≤ 100 * ((K2 : Int) + 1)) (h4 : 100 * (K2 : Int) < p * ((n * Q : Nat) : Int)) : K2 / Q = K := by
  have e : p * ((n * Q : Nat) : Int) = p * (n : Int) * (Q : Int) := by rw [Int.natCast_mul, Int.mul_assoc]
  rw [e] at h3 h4
  have a1 : p * (n : Int) * (Q : Int) ≤ 100 * ((K : Int) + 1) * (Q : Int) := Int.mul_le_mul_of_nonneg_right h1 (by omega)
  have a2 : (100 * (K : Int) + 1) * (Q : Int) ≤ p * (n : Int) * (Q : Int) := Int.mul_le_mul_of_nonneg_right (by omega) (by omega)
  have e1 : 100 * ((K : Int) + 1) * (Q : Int) = 100 * ((K : Int) * (Q : Int)) + 100 * (Q : Int) := by
    rw [Int.mul_assoc, Int.add_mul, Int.one_mul, Int.mul_add]
  have e2 : (100 * (K : Int) + 1) * (Q : Int) = 100 * ((K : Int) * (Q : Int)) + (Q : Int) := by
    rw [Int.add_mul, Int.one_mul, Int.mul_assoc]
  rw [e1] at a1
  rw [e2] at a2
  have b1 : (K : Int) * (Q : Int) ≤ (K2 : Int) := by omega
  have b2 : (K2 : Int) < (K : Int) * (Q : Int) + (Q : Int) := by omega
  have c1 : K * Q ≤ K2 := by
    have : ((K * Q : Nat) : Int) ≤ (K2 : Int) := by rw [Int.natCast_mul]; exact b1
    omega
  have c2 : K2 < K * Q + Q := by
    have : (K2 : Int) < ((K * Q : Nat) : Int) + (Q : Int) := by rw [Int.natCast_mul]; exact b2
    omega
  obtain ⟨d, rfl⟩ : ∃ d, K2 = K * Q + d := ⟨K2 - K * Q, by omega⟩
  exact div_mid K d Q (by omega)
end Go.Proofs.Qxb6617156a.plain
