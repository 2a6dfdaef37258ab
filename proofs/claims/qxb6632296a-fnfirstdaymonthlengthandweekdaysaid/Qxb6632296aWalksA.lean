import Derived.Test.Qxb6632296aPlain
import Derived.WalkSpells
namespace Go.Proofs.Qxb6632296a
open Go.RowKit

theorem ret_int {k : IntKind} {a b : Int} (h : a = b) : Ending.returned (.int k a) = .returned (.int k b) := by rw [h]

theorem floorDiv_any (a b : Int) (w : World) (h1 : -20000000000000000 ≤ a) (h2 : a ≤ 20000000000000000) (hb : b = 4 ∨ b = 100 ∨ b = 400) :
    Calls Try.prog 11 #[.int .i64 a, .int .i64 b] w fun e w' => e = .returned (.int .i64 (a / b)) ∧ w' = w := by
  rcases hb with rfl | rfl | rfl
  all_goals
    by_cases h : a < 0
    · go_enter Try.func11, Try.ntmps11
      go_wp2
      go_ret
      exact ⟨ret_int (by omega), rfl⟩
    · go_enter Try.func11, Try.ntmps11
      go_wp2
      go_ret
      exact ⟨rfl, rfl⟩

theorem zzDay_any (d : Int) (w : World) :
    Calls Try.prog 5 #[.agg #[.int .i64 d]] w fun e w' => e = .returned (.int .i64 d) ∧ w' = w.alloc (.cells #[.int .i64 d] 24) := by
  go_enter Try.func5, Try.ntmps5
  go_wp2
  go_ret
  exact ⟨rfl, rfl⟩

theorem firstDay_any (y m : Int) (w : World) (h1 : -18014398509482500 ≤ y) (h2 : y ≤ 18014398509482500) (h3 : 1 ≤ m) (h4 : m ≤ 12) :
    Calls Try.prog 6 #[.int .i64 y, .int .i64 m] w fun e w' => e = .returned (.agg #[.int .i64 (fd y m)]) ∧ w' = w.alloc (.cells #[.int .i64 (fd y m)] 24) := by
  by_cases h : m < 3
  · have HF : Hid (fd y m = core (y - 1) (m + 12)) := by unfold fd; exact if_pos h
    go_enter Try.func6, Try.ntmps6
    go_wp2_with fail
    refine (floorDiv_any (y - 1) 4 _ (by omega) (by omega) (by simp)).mono ?_
    rintro e w1 ⟨rfl, rfl⟩
    go_wp2_with fail
    refine (floorDiv_any (y - 1) 100 _ (by omega) (by omega) (by simp)).mono ?_
    rintro e w2 ⟨rfl, rfl⟩
    go_wp2_with fail
    refine (floorDiv_any (y - 1) 400 _ (by omega) (by omega) (by simp)).mono ?_
    rintro e w3 ⟨rfl, rfl⟩
    go_wp2_with fail
    rw [HF.out]
    unfold core
    exact bodyPost_ret (v := .agg #[.int .i64 (365 * (y - 1) + (y - 1) / 4 - (y - 1) / 100 + (y - 1) / 400 + (153 * (m + 12 - 3) + 2) / 5 - 306 + 3652425)]) (by simp [results, Try.results6, go_sem]) rfl ⟨rfl, rfl⟩
  · have HF : Hid (fd y m = core y m) := by unfold fd; exact if_neg h
    go_enter Try.func6, Try.ntmps6
    go_wp2_with fail
    refine (floorDiv_any y 4 _ (by omega) (by omega) (by simp)).mono ?_
    rintro e w1 ⟨rfl, rfl⟩
    go_wp2_with fail
    refine (floorDiv_any y 100 _ (by omega) (by omega) (by simp)).mono ?_
    rintro e w2 ⟨rfl, rfl⟩
    go_wp2_with fail
    refine (floorDiv_any y 400 _ (by omega) (by omega) (by simp)).mono ?_
    rintro e w3 ⟨rfl, rfl⟩
    go_wp2_with fail
    rw [HF.out]
    unfold core
    exact bodyPost_ret (v := .agg #[.int .i64 (365 * y + y / 4 - y / 100 + y / 400 + (153 * (m - 3) + 2) / 5 - 306 + 3652425)]) (by simp [results, Try.results6, go_sem]) rfl ⟨rfl, rfl⟩

theorem tmod_zero (y k : Int) (h : k = 4 ∨ k = 100 ∨ k = 400) : (y.tmod k == 0) = (y % k == 0) := by
  rcases h with rfl | rfl | rfl
  all_goals
    rw [Bool.eq_iff_iff]
    simp only [beq_iff_eq]
    exact ⟨fun h => Int.emod_eq_zero_of_dvd (Int.dvd_of_tmod_eq_zero h), fun h => Int.tmod_eq_zero_of_dvd (Int.dvd_of_emod_eq_zero h)⟩

theorem tmod_yes (y k : Int) (h : k = 4 ∨ k = 100 ∨ k = 400) (e : y % k = 0) : (y.tmod k == 0) = true ∧ (y.tmod k != 0) = false := by
  have := tmod_zero y k h
  have h2 : (y % k == 0) = true := by simpa using e
  rw [h2] at this
  exact ⟨this, by simp only [bne, this]; rfl⟩
theorem tmod_no (y k : Int) (h : k = 4 ∨ k = 100 ∨ k = 400) (e : ¬ y % k = 0) : (y.tmod k == 0) = false ∧ (y.tmod k != 0) = true := by
  have := tmod_zero y k h
  have h2 : (y % k == 0) = false := by simpa using e
  rw [h2] at this
  exact ⟨this, by simp only [bne, this]; rfl⟩

theorem leap_any (y : Int) (w : World) :
    Calls Try.prog 10 #[.int .i64 y] w fun e w' => e = .returned (.bool (leapB y)) ∧ w' = w := by
  by_cases c4 : y % 4 = 0
  · obtain ⟨e4, f4⟩ := tmod_yes y 4 (by simp) c4
    by_cases c100 : y % 100 = 0
    · obtain ⟨e100, f100⟩ := tmod_yes y 100 (by simp) c100
      by_cases c400 : y % 400 = 0
      · obtain ⟨e400, f400⟩ := tmod_yes y 400 (by simp) c400
        have HL : Hid (leapB y = true) := by simp [Hid, leapB, c4, c400]
        clear c4 c100 c400
        go_enter Try.func10, Try.ntmps10
        go_wp2
        go_ret
        rw [HL.out]
        exact ⟨rfl, rfl⟩
      · obtain ⟨e400, f400⟩ := tmod_no y 400 (by simp) c400
        have HL : Hid (leapB y = false) := by simp [Hid, leapB, c4, c100, c400]
        clear c4 c100 c400
        go_enter Try.func10, Try.ntmps10
        go_wp2
        go_ret
        rw [HL.out]
        exact ⟨rfl, rfl⟩
    · obtain ⟨e100, f100⟩ := tmod_no y 100 (by simp) c100
      have HL : Hid (leapB y = true) := by simp [Hid, leapB, c4, c100]
      clear c4 c100
      go_enter Try.func10, Try.ntmps10
      go_wp2
      go_ret
      rw [HL.out]
      exact ⟨rfl, rfl⟩
  · obtain ⟨e4, f4⟩ := tmod_no y 4 (by simp) c4
    have HL : Hid (leapB y = false) := by simp [Hid, leapB, c4]
    clear c4
    go_enter Try.func10, Try.ntmps10
    go_wp2
    go_ret
    rw [HL.out]
    exact ⟨rfl, rfl⟩

end Go.Proofs.Qxb6632296a
