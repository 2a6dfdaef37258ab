import Derived.Test.Qxb6632296aWalksA
import Derived.Test.Qxb6632296aPlainB
import Derived.WalkSpells
namespace Go.Proofs.Qxb6632296a
open Go.RowKit

theorem tmod_neg (a k : Int) (hk : k = 4 ∨ k = 7 ∨ k = 100) (h : a.tmod k < 0) : a.tmod k + k = a % k := by
  have e := Int.tmod_def a k
  have h2 := Int.emod_emod_of_dvd a (Int.dvd_refl k)
  rcases Int.lt_or_le a 0 with ha | ha
  · have := Int.tmod_eq_emod (a := a) (b := k)
    rcases hk with rfl | rfl | rfl <;> simp at this <;> split at this <;> omega
  · have : a.tmod k = a % k := Int.tmod_eq_emod_of_nonneg ha
    rcases hk with rfl | rfl | rfl <;> omega

theorem tmod_pos (a k : Int) (hk : k = 4 ∨ k = 7 ∨ k = 100) (h : ¬ a.tmod k < 0) : a.tmod k = a % k := by
  have := Int.tmod_eq_emod (a := a) (b := k)
  rcases hk with rfl | rfl | rfl <;> simp at this <;> split at this <;> omega

theorem floorMod_any (a k : Int) (w : World) (hk : k = 4 ∨ k = 7 ∨ k = 100) :
    Calls Try.prog 12 #[.int .i64 a, .int .i64 k] w fun e w' => e = .returned (.int .i64 (a % k)) ∧ w' = w := by
  by_cases h : a.tmod k < 0
  · have e := tmod_neg a k hk h
    have hl : -100 ≤ a.tmod k := by rcases hk with rfl | rfl | rfl <;> omega
    have HE : Hid _ := e
    clear e
    rcases hk with rfl | rfl | rfl
    all_goals
      go_enter Try.func12, Try.ntmps12
      go_wp2
      go_ret
      exact ⟨ret_int HE.out, rfl⟩
  · have e := tmod_pos a k hk h
    have HE : Hid _ := e
    clear e
    rcases hk with rfl | rfl | rfl
    all_goals
      go_enter Try.func12, Try.ntmps12
      go_wp2
      go_ret
      exact ⟨ret_int HE.out, rfl⟩

theorem floorMod64_any (a k : Int) (w : World) (hk : k = 4 ∨ k = 7 ∨ k = 100) :
    Calls Try.prog 8 #[.int .i64 a, .int .i64 k] w fun e w' => e = .returned (.int .i64 (a % k)) ∧ w' = w := by
  by_cases h : a.tmod k < 0
  · have e := tmod_neg a k hk h
    have hl : -100 ≤ a.tmod k := by rcases hk with rfl | rfl | rfl <;> omega
    have HE : Hid _ := e
    clear e
    rcases hk with rfl | rfl | rfl
    all_goals
      go_enter Try.func8, Try.ntmps8
      go_wp2
      go_ret
      exact ⟨ret_int HE.out, rfl⟩
  · have e := tmod_pos a k hk h
    have HE : Hid _ := e
    clear e
    rcases hk with rfl | rfl | rfl
    all_goals
      go_enter Try.func8, Try.ntmps8
      go_wp2
      go_ret
      exact ⟨ret_int HE.out, rfl⟩

theorem div_exact (y : Int) : (y - y % 100).tdiv 100 = y / 100 ∧ (y - y % 4).tdiv 4 = y / 4 := by
  constructor
  · rw [show y - y % 100 = y / 100 * 100 from by omega, Int.mul_tdiv_cancel _ (by decide)]
  · rw [show y - y % 4 = y / 4 * 4 from by omega, Int.mul_tdiv_cancel _ (by decide)]

set_option maxHeartbeats 800000 in
theorem zeller_any (y m : Int) (w : World) (h1 : -18014398509482500 ≤ y) (h2 : y ≤ 18014398509482500) (h3 : 1 ≤ m) (h4 : m ≤ 12) :
    Calls Try.prog 9 #[.int .i64 y, .int .i64 m] w fun e w' => e = .returned (.int .i64 (zel y m)) ∧ w' = w := by
  by_cases h : m < 3
  · have HF : Hid (zel y m = zcore (y - 1) (m + 12)) := by unfold zel; exact if_pos h
    have d1 := (div_exact (y - 1)).1
    have d2 := (div_exact ((y - 1) / 100)).2
    go_enter Try.func9, Try.ntmps9
    go_wp2_with fail
    refine (floorMod_any (y - 1) 100 _ (by simp)).mono ?_
    rintro e w1 ⟨rfl, rfl⟩
    go_wp2_with fail
    refine (floorMod_any ((y - 1) / 100) 4 _ (by simp)).mono ?_
    rintro e w2 ⟨rfl, rfl⟩
    go_wp2_with fail
    refine (floorMod_any _ 7 _ (by simp)).mono ?_
    rintro e w3 ⟨rfl, rfl⟩
    go_wp2_with fail
    go_ret
    rw [HF.out]
    exact ⟨rfl, rfl⟩
  · have HF : Hid (zel y m = zcore y m) := by unfold zel; exact if_neg h
    have d1 := (div_exact y).1
    have d2 := (div_exact (y / 100)).2
    go_enter Try.func9, Try.ntmps9
    go_wp2_with fail
    refine (floorMod_any y 100 _ (by simp)).mono ?_
    rintro e w1 ⟨rfl, rfl⟩
    go_wp2_with fail
    refine (floorMod_any (y / 100) 4 _ (by simp)).mono ?_
    rintro e w2 ⟨rfl, rfl⟩
    go_wp2_with fail
    refine (floorMod_any _ 7 _ (by simp)).mono ?_
    rintro e w3 ⟨rfl, rfl⟩
    go_wp2_with fail
    go_ret
    rw [HF.out]
    exact ⟨rfl, rfl⟩

theorem monthLen_any (y m : Int) (w : World) (h3 : 1 ≤ m) (h4 : m ≤ 12) :
    Calls Try.prog 7 #[.int .i64 y, .int .i64 m] w fun e w' => e = .returned (.int .i64 (mlen y m)) ∧ w' = w := by
  rcases months m h3 h4 with rfl | rfl | rfl | rfl | rfl | rfl | rfl | rfl | rfl | rfl | rfl | rfl
  case inr.inl =>
    cases hl : leapB y
    · have HL : Hid (leapB y = false) := hl
      have HM : Hid (mlen y 2 = 28) := by simp [Hid, mlen, hl]
      clear hl
      go_enter Try.func7, Try.ntmps7
      go_wp2_with fail
      refine (leap_any _ _).mono ?_
      rintro e w1 ⟨rfl, rfl⟩
      rw [HL.out]
      go_wp2_with fail
      go_ret
      rw [HM.out]
      exact ⟨rfl, rfl⟩
    · have HL : Hid (leapB y = true) := hl
      have HM : Hid (mlen y 2 = 29) := by simp [Hid, mlen, hl]
      clear hl
      go_enter Try.func7, Try.ntmps7
      go_wp2_with fail
      refine (leap_any _ _).mono ?_
      rintro e w1 ⟨rfl, rfl⟩
      rw [HL.out]
      go_wp2_with fail
      go_ret
      rw [HM.out]
      exact ⟨rfl, rfl⟩
  all_goals
    go_enter Try.func7, Try.ntmps7
    go_wp2
    go_ret
    exact ⟨rfl, rfl⟩

end Go.Proofs.Qxb6632296a
