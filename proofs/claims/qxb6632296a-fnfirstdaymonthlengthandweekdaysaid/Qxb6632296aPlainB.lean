import Derived.Test.Qxb6632296aPlain
namespace Go.Proofs.Qxb6632296a

/-- The length of a month. -/
def mlen (y m : Int) : Int := if m = 2 then (if leapB y = true then 29 else 28) else if m = 4 ∨ m = 6 ∨ m = 9 ∨ m = 11 then 30 else 31

theorem leap_of (y : Int) : (leapB y = true ↔ y % 4 = 0 ∧ (¬ y % 100 = 0 ∨ y % 400 = 0)) := by
  unfold leapB
  exact decide_eq_true_iff

theorem months (m : Int) (h3 : 1 ≤ m) (h4 : m ≤ 12) : m = 1 ∨ m = 2 ∨ m = 3 ∨ m = 4 ∨ m = 5 ∨ m = 6 ∨ m = 7 ∨ m = 8 ∨ m = 9 ∨ m = 10 ∨ m = 11 ∨ m = 12 := by omega

theorem month_len (y m : Int) (h3 : 1 ≤ m) (h4 : m ≤ 11) : fd y (m + 1) - fd y m = mlen y m := by
  rcases months m h3 (by omega) with rfl | rfl | rfl | rfl | rfl | rfl | rfl | rfl | rfl | rfl | rfl | rfl
  case inr.inl =>
    simp only [fd, core, mlen]
    have := leap_of y
    by_cases hl : leapB y = true
    · have := this.1 hl
      simp [hl]
      omega
    · have h2 : ¬ (y % 4 = 0 ∧ (¬ y % 100 = 0 ∨ y % 400 = 0)) := fun h => hl (this.2 h)
      simp [hl]
      omega
  all_goals
    simp [fd, core, mlen]
    try omega

theorem month_last (y : Int) : fd (y + 1) 1 - fd y 12 = mlen y 12 := by
  simp [fd, core, mlen]
  omega

/-- Zeller's congruence at a year that begins in March. -/
def zcore (y m : Int) : Int := ((1 + 13 * (m + 1) / 5 + y % 100 + y % 100 / 4 + y / 100 / 4 + 5 * (y / 100)) % 7 + 5) % 7
def zel (y m : Int) : Int := if m < 3 then zcore (y - 1) (m + 12) else zcore y m

theorem zeller_core (y m : Int) (h : m = 3 ∨ m = 4 ∨ m = 5 ∨ m = 6 ∨ m = 7 ∨ m = 8 ∨ m = 9 ∨ m = 10 ∨ m = 11 ∨ m = 12 ∨ m = 13 ∨ m = 14) : core y m % 7 = zcore y m := by
  unfold core zcore
  obtain ⟨j, k, hk0, hk1, rfl⟩ : ∃ j k : Int, 0 ≤ k ∧ k < 100 ∧ y = 100 * j + k := ⟨y / 100, y % 100, by omega, by omega, by omega⟩
  have e1 : (100 * j + k) / 100 = j := by omega
  have e2 : (100 * j + k) % 100 = k := by omega
  have e3 : (100 * j + k) / 4 = 25 * j + k / 4 := by omega
  have e4 : (100 * j + k) / 400 = j / 4 := by omega
  rw [e1, e2, e3, e4]
  generalize k / 4 = q
  generalize j / 4 = r
  rcases h with rfl | rfl | rfl | rfl | rfl | rfl | rfl | rfl | rfl | rfl | rfl | rfl <;> omega

theorem zeller (y m : Int) (h3 : 1 ≤ m) (h4 : m ≤ 12) : fd y m % 7 = zel y m := by
  unfold fd zel
  split
  · exact zeller_core _ _ (by omega)
  · exact zeller_core _ _ (by omega)

end Go.Proofs.Qxb6632296a
