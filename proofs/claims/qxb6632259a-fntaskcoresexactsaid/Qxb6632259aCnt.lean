import Derived.Test.Qxb6632259aPlain
namespace Go.Proofs.Qxb6632259a

theorem parts (t : Int) (m : Nat) (h : 1 ≤ t) (hm : 1 ≤ m) :
    ∃ q r p : Int, t / (m : Int) = q ∧ t % (m : Int) = r ∧ p + r = t ∧ 0 ≤ r ∧ r < m ∧ 0 ≤ q ∧ q ≤ p ∧ (1 ≤ q → (m : Int) ≤ p) ∧ (q = 0 → p = 0) := by
  have hdiv := Int.mul_ediv_add_emod t m
  refine ⟨t / m, t % m, m * (t / m), rfl, rfl, hdiv, Int.emod_nonneg _ (by omega), Int.emod_lt_of_pos _ (by omega), Int.ediv_nonneg (by omega) (by omega), ?_, ?_, ?_⟩
  · have hq : 0 ≤ t / (m : Int) := Int.ediv_nonneg (by omega) (by omega)
    have := Int.mul_le_mul_of_nonneg_right (show (1 : Int) ≤ m by omega) hq
    omega
  · intro h1
    have := Int.mul_le_mul_of_nonneg_left h1 (show (0 : Int) ≤ m by omega)
    omega
  · intro h0
    rw [h0]
    simp

theorem cnt_pos (t : Int) (m : Nat) (h : 1 ≤ t) (hm : 1 ≤ m) :
    1 ≤ cnt t m 0 ∧ cnt t m 0 ≤ t ∧ 0 ≤ cnt t m ((m : Int) - 1) ∧ cnt t m ((m : Int) - 1) ≤ t ∧ (1 ≤ cnt t m ((m : Int) - 1) ↔ (m : Int) ≤ t) := by
  obtain ⟨q, r, p, hq, hr, h1, h2, h3, h4, h5, h6, h7⟩ := parts t m h hm
  unfold cnt
  simp only [if_neg (show ¬ t ≤ 0 by omega), hq, hr]
  refine ⟨?_, ?_, ?_, ?_, ?_⟩
  · split <;> omega
  · split <;> omega
  · split <;> omega
  · split <;> omega
  · split <;> omega

theorem cnt_one (t : Int) (m : Nat) (j : Int) (h : t ≤ 0) : cnt t m j = 1 := by
  unfold cnt
  rw [if_pos h]

end Go.Proofs.Qxb6632259a
