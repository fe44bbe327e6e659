/-
  THE PLAIN LAWS OF THE NEAREST-RANK PERCENTILE: no Go in sight.
-/
namespace Go.Proofs.Qxb6617156a.plain

/-- How many of the first k values are at or below v. -/
def cle (Z : Nat → Int) (v : Int) : Nat → Nat
  | 0 => 0
  | k + 1 => cle Z v k + if Z k ≤ v then 1 else 0
/-- How many of the first k values are below v. -/
def clt (Z : Nat → Int) (v : Int) : Nat → Nat
  | 0 => 0
  | k + 1 => clt Z v k + if Z k < v then 1 else 0

theorem cle_le (Z : Nat → Int) (v : Int) (k : Nat) : cle Z v k ≤ k := by
  induction k with
  | zero => simp [cle]
  | succ k ih => simp only [cle]; split <;> omega
theorem clt_le (Z : Nat → Int) (v : Int) (k : Nat) : clt Z v k ≤ k := by
  induction k with
  | zero => simp [clt]
  | succ k ih => simp only [clt]; split <;> omega

theorem sorted_le {Z : Nat → Int} {n : Nat} (hs : ∀ j, 1 ≤ j → j < n → Z (j - 1) ≤ Z j) : ∀ d i, i + d < n → Z i ≤ Z (i + d) := by
  intro d
  induction d with
  | zero => intro i _; exact Int.le_refl _
  | succ d ih =>
    intro i h
    have h1 := ih i (by omega)
    have h2 := hs (i + d + 1) (by omega) (by omega)
    simp only [Nat.add_sub_cancel] at h2
    have e : i + (d + 1) = i + d + 1 := by omega
    rw [e]; omega

/-- At least K + 1 of the values are at or below the one at place K. -/
theorem cle_ge {Z : Nat → Int} {n K : Nat} (hs : ∀ j, 1 ≤ j → j < n → Z (j - 1) ≤ Z j) (hK : K < n) : K + 1 ≤ cle Z (Z K) n := by
  have key : ∀ k, k ≤ n → min k (K + 1) ≤ cle Z (Z K) k := by
    intro k
    induction k with
    | zero => intro _; omega
    | succ k ih =>
      intro hk
      have h1 := ih (by omega)
      simp only [cle]
      by_cases hkK : k ≤ K
      · have h2 := sorted_le hs (K - k) k (by omega)
        rw [show k + (K - k) = K by omega] at h2
        rw [if_pos h2]; omega
      · split <;> omega
  have := key n (Nat.le_refl _)
  omega

/-- At most K of the values are below the one at place K. -/
theorem clt_lt {Z : Nat → Int} {n K : Nat} (hs : ∀ j, 1 ≤ j → j < n → Z (j - 1) ≤ Z j) (hK : K < n) : clt Z (Z K) n ≤ K := by
  have key : ∀ k, k ≤ n → clt Z (Z K) k ≤ min k K := by
    intro k
    induction k with
    | zero => intro _; simp [clt]
    | succ k ih =>
      intro hk
      have h1 := ih (by omega)
      simp only [clt]
      by_cases hkK : K ≤ k
      · have h2 := sorted_le hs (k - K) K (by omega)
        rw [show K + (k - K) = k by omega] at h2
        rw [if_neg (by omega)]; omega
      · split <;> omega
  have := key n (Nat.le_refl _)
  omega

/-- The product is bounded. -/
theorem mul_bd (p : Int) (n : Nat) (h1 : 1 ≤ p) (h2 : p ≤ 100) (hn : n ≤ 131072) : 0 ≤ p * (n : Int) ∧ p * (n : Int) ≤ 100 * (n : Int) ∧ (n : Int) ≤ p * (n : Int) := by
  have hn0 : (0 : Int) ≤ (n : Int) := by omega
  refine ⟨Int.mul_nonneg (by omega) hn0, Int.mul_le_mul_of_nonneg_right h2 hn0, ?_⟩
  have := Int.mul_le_mul_of_nonneg_right h1 hn0
  omega

/-- The place that percentile reads. -/
theorem place (p : Int) (n : Nat) (h1 : 1 ≤ p) (h2 : p ≤ 100) (hn1 : 1 ≤ n) (hn : n ≤ 131072) :
    ∃ K : Nat, (p * (n : Int) + 99) / 100 - 1 = (K : Int) ∧ K < n ∧ p * (n : Int) ≤ 100 * ((K : Int) + 1) ∧ 100 * (K : Int) < p * (n : Int) := by
  obtain ⟨a, b, c⟩ := mul_bd p n h1 h2 hn
  refine ⟨((p * (n : Int) + 99) / 100 - 1).toNat, ?_, ?_, ?_, ?_⟩ <;> omega
end Go.Proofs.Qxb6617156a.plain
