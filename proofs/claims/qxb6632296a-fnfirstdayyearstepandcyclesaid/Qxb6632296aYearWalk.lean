import Derived.Test.Qxb6632296aWalksA
import Derived.WalkSpells
namespace Go.Proofs.Qxb6632296a
open Go.RowKit

theorem year_out (y m : Int) (w : World) (h : 18014398509481983 < y ∨ y < -18014398509481983 ∨ m < 1 ∨ 12 < m) :
    Calls Try.prog 4 #[.int .i64 y, .int .i64 m] w fun e w' => e = .returned (.bool true) ∧ Grown w w' := by
  by_cases h1 : (18014398509481983 : Int) < y
  · go_enter Try.func4, Try.ntmps4
    go_wp2
    go_ret
    exact ⟨rfl, Grown.refl _⟩
  · have d1 : decide ((18014398509481983 : Int) < y) = false := by simpa using h1
    by_cases h2 : y < (-18014398509481983 : Int)
    · go_enter Try.func4, Try.ntmps4
      go_wp2
      go_ret
      exact ⟨rfl, Grown.refl _⟩
    · have d2 : decide (y < (-18014398509481983 : Int)) = false := by simpa using h2
      by_cases h3 : m < 1
      · go_enter Try.func4, Try.ntmps4
        go_wp2
        go_ret
        exact ⟨rfl, Grown.refl _⟩
      · have d3 : decide (m < 1) = false := by simpa using h3
        have h4 : 12 < m := by omega
        go_enter Try.func4, Try.ntmps4
        go_wp2
        go_ret
        exact ⟨rfl, Grown.refl _⟩

set_option maxHeartbeats 1000000 in
theorem year_in (y m : Int) (w : World) (h1 : -18014398509481983 ≤ y) (h2 : y ≤ 18014398509481983) (h3 : 1 ≤ m) (h4 : m ≤ 12) :
    Calls Try.prog 4 #[.int .i64 y, .int .i64 m] w fun e w' => e = .returned (.bool true) ∧ Grown w w' := by
  have b0 := fd_bd y m (by omega) (by omega) h3 (by omega)
  have b1 := fd_bd (y + 1) m (by omega) (by omega) h3 (by omega)
  have b2 := fd_bd (y + 400) m (by omega) (by omega) h3 (by omega)
  have hc := fd_cycle y m
  have c1 : (fd (y + 400) m - fd y m == 146097) = true := by rw [hc]; rfl
  have d1 : decide ((18014398509481983 : Int) < y) = false := by simp; omega
  have d2 : decide (y < (-18014398509481983 : Int)) = false := by simp; omega
  have d3 : decide (m < 1) = false := by simp; omega
  have d4 : decide (12 < m) = false := by simp; omega
  have c3 : fd (y + 400) m - fd y m ≤ 146097 := by omega
  have c4 : 146097 ≤ fd (y + 400) m - fd y m := by omega
  clear hc
  by_cases hm : m < 3
  · have hs := fd_step_early y m hm
    have dm : decide (2 < m) = false := by simp; omega
    cases hl : leapB y
    · rw [hl] at hs
      have c2 : (fd (y + 1) m - fd y m == 365) = true := by rw [hs]; rfl
      have c5 : fd (y + 1) m - fd y m ≤ 365 := by rw [hs]; decide
      have c6 : 365 ≤ fd (y + 1) m - fd y m := by rw [hs]; decide
      have HL : Hid (leapB y = false) := hl
      clear hs hl
      go_enter Try.func4, Try.ntmps4
      go_wp2_with fail
      refine (firstDay_any y m _ (by omega) (by omega) h3 h4).mono ?_
      rintro e w1 ⟨rfl, rfl⟩
      go_wp2_with fail
      refine (zzDay_any _ _).mono ?_
      rintro e w2 ⟨rfl, rfl⟩
      go_wp2_with fail
      refine (firstDay_any (y + 1) m _ (by omega) (by omega) h3 h4).mono ?_
      rintro e w3 ⟨rfl, rfl⟩
      go_wp2_with fail
      refine (zzDay_any _ _).mono ?_
      rintro e w4 ⟨rfl, rfl⟩
      go_wp2_with fail
      refine (firstDay_any (y + 400) m _ (by omega) (by omega) h3 h4).mono ?_
      rintro e w5 ⟨rfl, rfl⟩
      go_wp2_with fail
      refine (zzDay_any _ _).mono ?_
      rintro e w6 ⟨rfl, rfl⟩
      go_wp2_with fail
      refine (leap_any _ _).mono ?_
      rintro e w7 ⟨rfl, rfl⟩
      rw [HL.out]
      go_wp2_with fail
      go_ret
      exact ⟨rfl, by repeat (first | exact Grown.refl _ | apply Grown.drew | apply Grown.alloc)⟩
    · rw [hl] at hs
      have c2 : (fd (y + 1) m - fd y m == 366) = true := by rw [hs]; rfl
      have c5 : fd (y + 1) m - fd y m ≤ 366 := by rw [hs]; decide
      have c6 : 366 ≤ fd (y + 1) m - fd y m := by rw [hs]; decide
      have HL : Hid (leapB y = true) := hl
      clear hs hl
      go_enter Try.func4, Try.ntmps4
      go_wp2_with fail
      refine (firstDay_any y m _ (by omega) (by omega) h3 h4).mono ?_
      rintro e w1 ⟨rfl, rfl⟩
      go_wp2_with fail
      refine (zzDay_any _ _).mono ?_
      rintro e w2 ⟨rfl, rfl⟩
      go_wp2_with fail
      refine (firstDay_any (y + 1) m _ (by omega) (by omega) h3 h4).mono ?_
      rintro e w3 ⟨rfl, rfl⟩
      go_wp2_with fail
      refine (zzDay_any _ _).mono ?_
      rintro e w4 ⟨rfl, rfl⟩
      go_wp2_with fail
      refine (firstDay_any (y + 400) m _ (by omega) (by omega) h3 h4).mono ?_
      rintro e w5 ⟨rfl, rfl⟩
      go_wp2_with fail
      refine (zzDay_any _ _).mono ?_
      rintro e w6 ⟨rfl, rfl⟩
      go_wp2_with fail
      refine (leap_any _ _).mono ?_
      rintro e w7 ⟨rfl, rfl⟩
      rw [HL.out]
      go_wp2_with fail
      go_ret
      exact ⟨rfl, by repeat (first | exact Grown.refl _ | apply Grown.drew | apply Grown.alloc)⟩
  · have hs := fd_step_late y m hm
    have dm : decide (2 < m) = true := by simp; omega
    cases hl : leapB (y + 1)
    · rw [hl] at hs
      have c2 : (fd (y + 1) m - fd y m == 365) = true := by rw [hs]; rfl
      have c5 : fd (y + 1) m - fd y m ≤ 365 := by rw [hs]; decide
      have c6 : 365 ≤ fd (y + 1) m - fd y m := by rw [hs]; decide
      have HL : Hid (leapB (y + 1) = false) := hl
      clear hs hl
      go_enter Try.func4, Try.ntmps4
      go_wp2_with fail
      refine (firstDay_any y m _ (by omega) (by omega) h3 h4).mono ?_
      rintro e w1 ⟨rfl, rfl⟩
      go_wp2_with fail
      refine (zzDay_any _ _).mono ?_
      rintro e w2 ⟨rfl, rfl⟩
      go_wp2_with fail
      refine (firstDay_any (y + 1) m _ (by omega) (by omega) h3 h4).mono ?_
      rintro e w3 ⟨rfl, rfl⟩
      go_wp2_with fail
      refine (zzDay_any _ _).mono ?_
      rintro e w4 ⟨rfl, rfl⟩
      go_wp2_with fail
      refine (firstDay_any (y + 400) m _ (by omega) (by omega) h3 h4).mono ?_
      rintro e w5 ⟨rfl, rfl⟩
      go_wp2_with fail
      refine (zzDay_any _ _).mono ?_
      rintro e w6 ⟨rfl, rfl⟩
      go_wp2_with fail
      refine (leap_any _ _).mono ?_
      rintro e w7 ⟨rfl, rfl⟩
      rw [HL.out]
      go_wp2_with fail
      go_ret
      exact ⟨rfl, by repeat (first | exact Grown.refl _ | apply Grown.drew | apply Grown.alloc)⟩
    · rw [hl] at hs
      have c2 : (fd (y + 1) m - fd y m == 366) = true := by rw [hs]; rfl
      have c5 : fd (y + 1) m - fd y m ≤ 366 := by rw [hs]; decide
      have c6 : 366 ≤ fd (y + 1) m - fd y m := by rw [hs]; decide
      have HL : Hid (leapB (y + 1) = true) := hl
      clear hs hl
      go_enter Try.func4, Try.ntmps4
      go_wp2_with fail
      refine (firstDay_any y m _ (by omega) (by omega) h3 h4).mono ?_
      rintro e w1 ⟨rfl, rfl⟩
      go_wp2_with fail
      refine (zzDay_any _ _).mono ?_
      rintro e w2 ⟨rfl, rfl⟩
      go_wp2_with fail
      refine (firstDay_any (y + 1) m _ (by omega) (by omega) h3 h4).mono ?_
      rintro e w3 ⟨rfl, rfl⟩
      go_wp2_with fail
      refine (zzDay_any _ _).mono ?_
      rintro e w4 ⟨rfl, rfl⟩
      go_wp2_with fail
      refine (firstDay_any (y + 400) m _ (by omega) (by omega) h3 h4).mono ?_
      rintro e w5 ⟨rfl, rfl⟩
      go_wp2_with fail
      refine (zzDay_any _ _).mono ?_
      rintro e w6 ⟨rfl, rfl⟩
      go_wp2_with fail
      refine (leap_any _ _).mono ?_
      rintro e w7 ⟨rfl, rfl⟩
      rw [HL.out]
      go_wp2_with fail
      go_ret
      exact ⟨rfl, by repeat (first | exact Grown.refl _ | apply Grown.drew | apply Grown.alloc)⟩

theorem year_all (y m : Int) (w : World) : Calls Try.prog 4 #[.int .i64 y, .int .i64 m] w fun e w' => e = .returned (.bool true) ∧ Grown w w' := by
  by_cases h : 18014398509481983 < y ∨ y < -18014398509481983 ∨ m < 1 ∨ 12 < m
  · exact year_out y m w h
  · exact year_in y m w (by omega) (by omega) (by omega) (by omega)

end Go.Proofs.Qxb6632296a
