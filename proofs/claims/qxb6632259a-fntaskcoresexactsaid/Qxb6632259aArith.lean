import Derived.Test.Qxb6632259aCnt
namespace Go.Proofs.Qxb6632259a

theorem tdiv_box (a d : Int) (hd : 1 ≤ d) : (0 ≤ a → 0 ≤ a.tdiv d ∧ 0 ≤ a.tdiv d * d ∧ a.tdiv d * d ≤ a) ∧ (a ≤ 0 → a.tdiv d ≤ 0 ∧ a.tdiv d * d ≤ 0 ∧ a ≤ a.tdiv d * d) := by
  constructor
  · intro h
    have e : a.tdiv d = a / d := Int.tdiv_eq_ediv_of_nonneg h
    rw [e]
    have h0 : 0 ≤ a / d := Int.ediv_nonneg h (by omega)
    exact ⟨h0, Int.mul_nonneg h0 (by omega), Int.ediv_mul_le _ (by omega)⟩
  · intro h
    have e : a.tdiv d = -((-a) / d) := by
      have h1 : (-a).tdiv d = (-a) / d := Int.tdiv_eq_ediv_of_nonneg (by omega)
      have h2 : (-a).tdiv d = -(a.tdiv d) := Int.neg_tdiv _ _
      omega
    rw [e]
    have h0 : 0 ≤ (-a) / d := Int.ediv_nonneg (by omega) (by omega)
    have h1 : (-a) / d * d ≤ -a := Int.ediv_mul_le _ (by omega)
    have h2 : 0 ≤ (-a) / d * d := Int.mul_nonneg h0 (by omega)
    have h3 : -((-a) / d) * d = -((-a) / d * d) := Int.neg_mul _ _
    exact ⟨by omega, by omega, by omega⟩

theorem rem_of (a d : Int) : (a.tdiv d * d = a) ↔ a.tmod d = 0 := by
  have e := Int.mul_tdiv_add_tmod a d
  rw [Int.mul_comm] at e
  constructor
  · intro h; omega
  · intro h; omega

/-- What the law's products come to. -/
theorem quot_bd (C H L : Int) (c0 : -9223372036854775808 ≤ C) (c1 : C ≤ 9223372036854775807) (hH : 1 ≤ H) (hL0 : 0 ≤ L) (hLH : L ≤ H) :
    (-9223372036854776 ≤ C.tdiv (H * 1000) ∧ C.tdiv (H * 1000) ≤ 9223372036854776) ∧
    (-9223372036854775808 ≤ C.tdiv (H * 1000) * (H * 1000) ∧ C.tdiv (H * 1000) * (H * 1000) ≤ 9223372036854775807) ∧
    (-9223372036854776 ≤ C.tdiv (H * 1000) * L ∧ C.tdiv (H * 1000) * L ≤ 9223372036854775) ∧
    (-9223372036854775808 ≤ C.tdiv (H * 1000) * L * 1000 ∧ C.tdiv (H * 1000) * L * 1000 ≤ 9223372036854775807) := by
  obtain ⟨b1, b2⟩ := tdiv_box C (H * 1000) (by omega)
  generalize C.tdiv (H * 1000) = q at *
  have e1 : q * (H * 1000) = q * H * 1000 := by rw [Int.mul_assoc]
  rw [e1] at b1 b2 ⊢
  rcases Int.le_total 0 C with h | h
  · obtain ⟨x1, x2, x3⟩ := b1 h
    have y1 : q * L ≤ q * H := Int.mul_le_mul_of_nonneg_left hLH x1
    have y2 : 0 ≤ q * L := Int.mul_nonneg x1 hL0
    have y3 : q * 1 ≤ q * H := Int.mul_le_mul_of_nonneg_left hH x1
    omega
  · obtain ⟨x1, x2, x3⟩ := b2 h
    have y1 : -q * L ≤ -q * H := Int.mul_le_mul_of_nonneg_left hLH (by omega)
    have y2 : 0 ≤ -q * L := Int.mul_nonneg (by omega) hL0
    have y3 : -q * 1 ≤ -q * H := Int.mul_le_mul_of_nonneg_left hH (by omega)
    rw [Int.neg_mul] at y1 y2 y3
    rw [Int.neg_mul] at y1 y3
    omega

theorem quot_only (C L : Int) (c0 : -9223372036854775808 ≤ C) (c1 : C ≤ 9223372036854775807) (hL : 1 ≤ L) :
    -9223372036854776 ≤ C.tdiv (L * 1000) ∧ C.tdiv (L * 1000) ≤ 9223372036854776 :=
  (quot_bd C L 0 c0 c1 hL (by omega) (by omega)).1

/-- Ceiling and floor. -/
theorem cnt_hi_lo (t : Int) (m : Nat) (h : 1 ≤ t) (hm : 1 ≤ m) : (t + (m : Int) - 1) / m = cnt t m 0 ∧ t / m = cnt t m ((m : Int) - 1) ∧ cnt t m ((m : Int) - 1) ≤ cnt t m 0 := by
  obtain ⟨q, r, p, hq, hr, h1, h2, h3, h4, h5, h6, h7⟩ := parts t m h hm
  have e : (t + (m : Int) - 1) / m = q + (if 0 < r then 1 else 0) := by
    have hd := Int.mul_ediv_add_emod t m
    rw [hq, hr] at hd
    by_cases hr0 : 0 < r
    · rw [if_pos hr0, show t + (m : Int) - 1 = (r - 1) + m * (q + 1) from by rw [Int.mul_add, Int.mul_one]; omega, Int.add_mul_ediv_left _ _ (by omega), Int.ediv_eq_zero_of_lt (by omega) (by omega)]
      omega
    · rw [if_neg hr0, show t + (m : Int) - 1 = ((m : Int) - 1) + m * q from by omega, Int.add_mul_ediv_left _ _ (by omega), Int.ediv_eq_zero_of_lt (by omega) (by omega)]
      omega
  unfold cnt
  simp only [if_neg (show ¬ t ≤ 0 by omega), hq, hr, e]
  refine ⟨trivial, ?_, ?_⟩
  · rw [if_neg (by omega)]; omega
  · rw [if_neg (by omega)]
    split <;> omega

end Go.Proofs.Qxb6632259a
