import Derived.Test.Qxb6632259aRows
import Derived.WalkKit
namespace Go.Proofs.Qxb6632259a
open Go.RowKit

theorem Try.info3 : (Try.prog.info? 3).map (fun i => (i.zero, i.size, i.bytes)) = some (some (.int .i64 0), 1, 8) := by kernel_rfl

/-- How many of t tasks member j of n runs. -/
def cnt (t n j : Int) : Int := if t ≤ 0 then 1 else t / n + (if j < t % n then 1 else 0)

/-- The counts behind k rounds. -/
def vals (t : Int) (n k : Nat) : List Value := (List.range n).map fun j => .int .i64 (if j < k then cnt t n j else 0)

theorem vals_len (t : Int) (n k : Nat) : (vals t n k).length = n := by simp [vals]

theorem vals_zero (t : Int) (n : Nat) : vals t n 0 = List.replicate n (.int .i64 0) := by
  apply List.ext_getElem?
  intro j
  by_cases h : j < n <;> simp [vals, h]

theorem vals_at (t : Int) (n k j : Nat) (h : j < n) : (vals t n k)[j]? = some (.int .i64 (if j < k then cnt t n j else 0)) := by
  simp [vals, h]

theorem vals_next (t : Int) (n k : Nat) : (vals t n k).set k (.int .i64 (cnt t n k)) = vals t n (k + 1) := by
  apply List.ext_getElem?
  intro j
  rw [List.getElem?_set]
  by_cases hj : j < n
  · rw [vals_at _ _ _ _ hj, vals_at _ _ _ _ hj, vals_len]
    by_cases e : k = j
    · subst e
      simp [hj]
    · rw [if_neg e]
      by_cases hk : j < k
      · rw [if_pos hk, if_pos (by omega)]
      · rw [if_neg hk, if_neg (by omega)]
  · have h1 : (vals t n k)[j]? = none := List.getElem?_eq_none (by rw [vals_len]; omega)
    have h2 : (vals t n (k + 1))[j]? = none := List.getElem?_eq_none (by rw [vals_len]; omega)
    rw [h1, h2]
    split
    · rw [vals_len, if_neg (by omega)]
    · rfl

end Go.Proofs.Qxb6632259a
