import Derived.Test.Qxb6632296aRows
import Derived.WalkKit
namespace Go.Proofs.Qxb6632296a

/-- The day count of the first of month m + 3 in a year that begins in March. -/
def core (y m : Int) : Int := 365 * y + y / 4 - y / 100 + y / 400 + (153 * (m - 3) + 2) / 5 - 306 + 3652425
/-- FirstDay. -/
def fd (y m : Int) : Int := if m < 3 then core (y - 1) (m + 12) else core y m
/-- The leap rule. -/
def leapB (y : Int) : Bool := decide (y % 4 = 0 ∧ (¬ y % 100 = 0 ∨ y % 400 = 0))

theorem core_step (y m : Int) : core (y + 1) m - core y m = if leapB (y + 1) = true then 366 else 365 := by
  unfold core leapB
  split
  · rename_i h
    simp only [decide_eq_true_eq] at h
    omega
  · rename_i h
    simp only [decide_eq_true_eq] at h
    omega

theorem core_cycle (y m : Int) : core (y + 400) m - core y m = 146097 := by
  unfold core
  omega

theorem fd_cycle (y m : Int) : fd (y + 400) m - fd y m = 146097 := by
  unfold fd
  split
  · have := core_cycle (y - 1) (m + 12)
    rw [show y - 1 + 400 = y + 400 - 1 from by omega] at this
    exact this
  · exact core_cycle y m

theorem fd_step_late (y m : Int) (h : ¬ m < 3) : fd (y + 1) m - fd y m = if leapB (y + 1) = true then 366 else 365 := by
  unfold fd
  rw [if_neg h, if_neg h]
  exact core_step y m

theorem fd_step_early (y m : Int) (h : m < 3) : fd (y + 1) m - fd y m = if leapB y = true then 366 else 365 := by
  unfold fd
  rw [if_pos h, if_pos h]
  have := core_step (y - 1) (m + 12)
  rw [show y - 1 + 1 = y from by omega] at this
  rw [show y + 1 - 1 = y from by omega]
  exact this

theorem fd_bd (y m : Int) (h1 : -18014398509482500 ≤ y) (h2 : y ≤ 18014398509482500) (h3 : 1 ≤ m) (h4 : m ≤ 13) : -6700000000000000000 ≤ fd y m ∧ fd y m ≤ 6700000000000000000 := by
  unfold fd core
  split <;> omega

end Go.Proofs.Qxb6632296a
