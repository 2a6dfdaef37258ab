import Derived.Test.Qxb6632296aWalksB
import Derived.WalkSpells
namespace Go.Proofs.Qxb6632296a
open Go.RowKit

theorem mlen_bd (y m : Int) : 28 ≤ mlen y m ∧ mlen y m ≤ 31 := by
  unfold mlen
  split
  · split <;> omega
  · split <;> omega

theorem month_out (y m : Int) (w : World) (h : 18014398509481983 < y ∨ y < -18014398509481983 ∨ m < 1 ∨ 12 < m) :
    Calls Try.prog 3 #[.int .i64 y, .int .i64 m] w fun e w' => e = .returned (.bool true) ∧ Grown w w' := by
  by_cases h1 : (18014398509481983 : Int) < y
  · go_enter Try.func3, Try.ntmps3
    go_wp2
    go_ret
    exact ⟨rfl, Grown.refl _⟩
  · have d1 : decide ((18014398509481983 : Int) < y) = false := by simpa using h1
    by_cases h2 : y < (-18014398509481983 : Int)
    · go_enter Try.func3, Try.ntmps3
      go_wp2
      go_ret
      exact ⟨rfl, Grown.refl _⟩
    · have d2 : decide (y < (-18014398509481983 : Int)) = false := by simpa using h2
      by_cases h3 : m < 1
      · go_enter Try.func3, Try.ntmps3
        go_wp2
        go_ret
        exact ⟨rfl, Grown.refl _⟩
      · have d3 : decide (m < 1) = false := by simpa using h3
        have h4 : 12 < m := by omega
        go_enter Try.func3, Try.ntmps3
        go_wp2
        go_ret
        exact ⟨rfl, Grown.refl _⟩

set_option maxHeartbeats 1000000 in
theorem month_in (y m : Int) (w : World) (h1 : -18014398509481983 ≤ y) (h2 : y ≤ 18014398509481983) (h3 : 1 ≤ m) (h4 : m ≤ 11) :
    Calls Try.prog 3 #[.int .i64 y, .int .i64 m] w fun e w' => e = .returned (.bool true) ∧ Grown w w' := by
  have b0 := fd_bd y m (by omega) (by omega) h3 (by omega)
  have b1 := fd_bd y (m + 1) (by omega) (by omega) (by omega) (by omega)
  have hl := month_len y m h3 h4
  have hb := mlen_bd y m
  have hz := zeller y m h3 (by omega)
  have z1 : (fd y m % 7 == zel y m) = true := by rw [hz]; simp
  have c1 : (fd y (m + 1) - fd y m == mlen y m) = true := by rw [hl]; simp
  have c2 : fd y (m + 1) - fd y m ≤ 31 := by omega
  have c3 : 28 ≤ fd y (m + 1) - fd y m := by omega
  have d1 : decide ((18014398509481983 : Int) < y) = false := by simp; omega
  have d2 : decide (y < (-18014398509481983 : Int)) = false := by simp; omega
  have d3 : decide (m < 1) = false := by simp; omega
  have d4 : decide (12 < m) = false := by simp; omega
  have d5 : (m == 12) = false := by simp; omega
  clear hl hz
  go_enter Try.func3, Try.ntmps3
  go_wp2_with fail
  refine (firstDay_any y m _ (by omega) (by omega) h3 (by omega)).mono ?_
  rintro e w1 ⟨rfl, rfl⟩
  go_wp2_with fail
  refine (zzDay_any _ _).mono ?_
  rintro e w2 ⟨rfl, rfl⟩
  go_wp2_with fail
  refine (firstDay_any y (m + 1) _ (by omega) (by omega) (by omega) (by omega)).mono ?_
  rintro e w3 ⟨rfl, rfl⟩
  go_wp2_with fail
  refine (zzDay_any _ _).mono ?_
  rintro e w4 ⟨rfl, rfl⟩
  go_wp2_with fail
  refine (monthLen_any y m _ h3 (by omega)).mono ?_
  rintro e w5 ⟨rfl, rfl⟩
  go_wp2_with fail
  refine (floorMod64_any _ 7 _ (by simp)).mono ?_
  rintro e w6 ⟨rfl, rfl⟩
  go_wp2_with fail
  refine (zeller_any y m _ (by omega) (by omega) h3 (by omega)).mono ?_
  rintro e w7 ⟨rfl, rfl⟩
  go_wp2_with fail
  go_ret
  exact ⟨rfl, by repeat (first | exact Grown.refl _ | apply Grown.drew | apply Grown.alloc)⟩

set_option maxHeartbeats 1000000 in
theorem month_dec (y : Int) (w : World) (h1 : -18014398509481983 ≤ y) (h2 : y ≤ 18014398509481983) :
    Calls Try.prog 3 #[.int .i64 y, .int .i64 12] w fun e w' => e = .returned (.bool true) ∧ Grown w w' := by
  have b0 := fd_bd y 12 (by omega) (by omega) (by omega) (by omega)
  have b1 := fd_bd (y + 1) 1 (by omega) (by omega) (by omega) (by omega)
  have hl := month_last y
  have hb := mlen_bd y 12
  have hz := zeller y 12 (by omega) (by omega)
  have z1 : (fd y 12 % 7 == zel y 12) = true := by rw [hz]; simp
  have c1 : (fd (y + 1) 1 - fd y 12 == mlen y 12) = true := by rw [hl]; simp
  have c2 : fd (y + 1) 1 - fd y 12 ≤ 31 := by omega
  have c3 : 28 ≤ fd (y + 1) 1 - fd y 12 := by omega
  have d1 : decide ((18014398509481983 : Int) < y) = false := by simp; omega
  have d2 : decide (y < (-18014398509481983 : Int)) = false := by simp; omega
  clear hl hz
  go_enter Try.func3, Try.ntmps3
  go_wp2_with fail
  refine (firstDay_any y 12 _ (by omega) (by omega) (by omega) (by omega)).mono ?_
  rintro e w1 ⟨rfl, rfl⟩
  go_wp2_with fail
  refine (zzDay_any _ _).mono ?_
  rintro e w2 ⟨rfl, rfl⟩
  go_wp2_with fail
  refine (firstDay_any (y + 1) 1 _ (by omega) (by omega) (by omega) (by omega)).mono ?_
  rintro e w3 ⟨rfl, rfl⟩
  go_wp2_with fail
  refine (zzDay_any _ _).mono ?_
  rintro e w4 ⟨rfl, rfl⟩
  go_wp2_with fail
  refine (monthLen_any y 12 _ (by omega) (by omega)).mono ?_
  rintro e w5 ⟨rfl, rfl⟩
  go_wp2_with fail
  refine (floorMod64_any _ 7 _ (by simp)).mono ?_
  rintro e w6 ⟨rfl, rfl⟩
  go_wp2_with fail
  refine (zeller_any y 12 _ (by omega) (by omega) (by omega) (by omega)).mono ?_
  rintro e w7 ⟨rfl, rfl⟩
  go_wp2_with fail
  go_ret
  exact ⟨rfl, by repeat (first | exact Grown.refl _ | apply Grown.drew | apply Grown.alloc)⟩

theorem month_all (y m : Int) (w : World) : Calls Try.prog 3 #[.int .i64 y, .int .i64 m] w fun e w' => e = .returned (.bool true) ∧ Grown w w' := by
  by_cases h : 18014398509481983 < y ∨ y < -18014398509481983 ∨ m < 1 ∨ 12 < m
  · exact month_out y m w h
  · by_cases h12 : m = 12
    · subst h12
      exact month_dec y w (by omega) (by omega)
    · exact month_in y m w (by omega) (by omega) (by omega) (by omega)

end Go.Proofs.Qxb6632296a
