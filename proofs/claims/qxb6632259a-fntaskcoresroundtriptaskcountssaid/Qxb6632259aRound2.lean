import Derived.Test.Qxb6632259aRound
namespace Go.Proofs.Qxb6632259a
open Go.RowKit

set_option maxHeartbeats 1000000 in
theorem round_neg (i0 i1 t c : Int) (m : Nat) (w : World) (r0 : -9223372036854775808 ≤ i0) (r1 : i0 ≤ 9223372036854775807) (hM : wrap64 (i0 + i1) = (m : Int)) (h1 : 1 ≤ m) (h2 : m ≤ 65536)
    (ht0 : t ≤ 0) (hl0 : (c ≤ 9223372036854775)) (hl1 : -9223372036854775 ≤ c) :
    Calls Try.prog 4 #[.int .i64 i0, .int .i64 i1, .int .i64 t, .int .i64 c] w fun e w' => e = .returned (.bool true) ∧ Below w.heap.size w w' := by
  have hH := cnt_one t m 0 ht0
  have hL := cnt_one t m ((m : Int) - 1) ht0
  have d0 : decide ((m : Int) < 1) = false := by simp; omega
  have d1 : decide (9223372036854775 < c) = false := by simpa using hl0
  go_enter Try.func4, Try.ntmps4
  go_wp2_with fail
  rw [hM]
  refine (counts_any t m w h1 h2 (by omega)).mono ?_
  rintro e w1 ⟨rfl, hown, b1⟩
  have e0 : w1.cell? ⟨w.heap.size, 0, none⟩ = some (.int .i64 1) := by rw [hown.cellAt 0 (by omega), vals_at _ _ _ _ (by omega), if_pos (by omega), ← hH]; rfl
  have e1 : w1.cell? ⟨w.heap.size, m - 1, none⟩ = some (.int .i64 1) := by rw [hown.cellAt (m - 1) (by omega), vals_at _ _ _ _ (by omega), if_pos (by omega), cnt_one _ _ _ ht0]
  have HB : Hid (Below w.heap.size w w1) := b1
  have HH : Hid _ := hH
  have HL : Hid _ := hL
  have HM : Hid _ := (msum_two i0 (c * 1000) i1 (c * 1000) r0 r1).trans hM
  clear hown b1 hH hL hM
  go_wp2_with fail
  have t0 : (c * 1000).tdiv (1 * 1000) = c := Int.mul_tdiv_cancel _ (by omega)
  have t1 : (c * 1000).tmod (1 * 1000) = 0 := Int.mul_tmod_left _ _
  refine (cores_two _ _ _ _ m _ t (c * 1000) (c * 1000) 1 1 _ (job2 w1 i0 (c * 1000) i1 (c * 1000) t) HM.out h1 h2 (by omega) rfl rfl HH.out HL.out (by omega) (by omega) (by omega) (by omega) (by rw [t0]; omega) (by rw [t0]; omega) (by rw [t0]; omega) (by rw [t0]; omega) (by rw [t1]; rfl) (by rw [t1]; rfl) (by simp)).mono ?_
  rw [t0]
  rintro e w2 ⟨rfl, b2⟩
  have BB : Below w.heap.size w w2 := by
    refine Below.trans ?_ (b2.mono ?_)
    · exact ((HB.out.alloc HB.out.size _).alloc (by have := HB.out.size; simp; omega) _).alloc (by have := HB.out.size; simp; omega) _
    · have := HB.out.size; simp; omega
  clear b2 t0 t1
  have d2 : decide (t ≤ 0) = true := by simp; omega
  go_wp2_with fail
  go_ret
  exact ⟨rfl, BB⟩

theorem round_out1 (i0 i1 t c : Int) (w : World) (h : 9223372036854775 < t) :
    Calls Try.prog 4 #[.int .i64 i0, .int .i64 i1, .int .i64 t, .int .i64 c] w fun e w' => e = .returned (.bool true) ∧ Below w.heap.size w w' := by
  go_enter Try.func4, Try.ntmps4
  go_wp2
  go_ret
  exact ⟨rfl, Below.refl _ _⟩

theorem round_out2 (i0 i1 t c M : Int) (w : World) (ht : t ≤ 9223372036854775) (hM : wrap64 (i0 + i1) = M) (h : M < 1 ∨ 65536 < M) :
    Calls Try.prog 4 #[.int .i64 i0, .int .i64 i1, .int .i64 t, .int .i64 c] w fun e w' => e = .returned (.bool true) ∧ Below w.heap.size w w' := by
  by_cases h1 : M < 1
  · go_enter Try.func4, Try.ntmps4
    go_wp2
    go_ret
    exact ⟨rfl, Below.refl _ _⟩
  · have h2 : 65536 < M := by omega
    have d1 : decide (M < 1) = false := by simpa using h1
    go_enter Try.func4, Try.ntmps4
    go_wp2
    go_ret
    exact ⟨rfl, Below.refl _ _⟩

theorem round_out3 (i0 i1 t c M : Int) (w : World) (ht : t ≤ 9223372036854775) (hM : wrap64 (i0 + i1) = M) (h1 : 1 ≤ M) (h2 : M ≤ 65536) (ht1 : 1 ≤ t) (h : 9223372036854775 / t < c ∨ c < -(9223372036854775 / t)) :
    Calls Try.prog 4 #[.int .i64 i0, .int .i64 i1, .int .i64 t, .int .i64 c] w fun e w' => e = .returned (.bool true) ∧ Below w.heap.size w w' := by
  have l0 : 0 ≤ 9223372036854775 / t := Int.ediv_nonneg (by omega) (by omega)
  have l1 : 9223372036854775 / t ≤ 9223372036854775 := Int.ediv_le_self _ (by omega)
  have d1 : decide (M < 1) = false := by simp; omega
  by_cases h3 : 9223372036854775 / t < c
  · go_enter Try.func4, Try.ntmps4
    go_wp2
    go_ret
    exact ⟨rfl, Below.refl _ _⟩
  · have h4 : c < -(9223372036854775 / t) := by omega
    have d2 : decide (9223372036854775 / t < c) = false := by simpa using h3
    go_enter Try.func4, Try.ntmps4
    go_wp2
    go_ret
    exact ⟨rfl, Below.refl _ _⟩

theorem round_out4 (i0 i1 t c M : Int) (w : World) (hM : wrap64 (i0 + i1) = M) (h1 : 1 ≤ M) (h2 : M ≤ 65536) (ht0 : t ≤ 0) (h : 9223372036854775 < c ∨ c < -9223372036854775) :
    Calls Try.prog 4 #[.int .i64 i0, .int .i64 i1, .int .i64 t, .int .i64 c] w fun e w' => e = .returned (.bool true) ∧ Below w.heap.size w w' := by
  have d1 : decide (M < 1) = false := by simp; omega
  by_cases h3 : 9223372036854775 < c
  · go_enter Try.func4, Try.ntmps4
    go_wp2
    go_ret
    exact ⟨rfl, Below.refl _ _⟩
  · have h4 : c < -9223372036854775 := by omega
    have d2 : decide (9223372036854775 < c) = false := by simpa using h3
    go_enter Try.func4, Try.ntmps4
    go_wp2
    go_ret
    exact ⟨rfl, Below.refl _ _⟩

theorem round_all (i0 i1 t c : Int) (w : World) (r0 : -9223372036854775808 ≤ i0) (r1 : i0 ≤ 9223372036854775807) :
    Calls Try.prog 4 #[.int .i64 i0, .int .i64 i1, .int .i64 t, .int .i64 c] w fun e w' => e = .returned (.bool true) ∧ Below w.heap.size w w' := by
  by_cases a1 : 9223372036854775 < t
  · exact round_out1 i0 i1 t c w a1
  · by_cases a2 : wrap64 (i0 + i1) < 1 ∨ 65536 < wrap64 (i0 + i1)
    · exact round_out2 i0 i1 t c _ w (by omega) rfl a2
    · obtain ⟨m, hm⟩ := Int.eq_ofNat_of_zero_le (show 0 ≤ wrap64 (i0 + i1) by omega)
      by_cases a3 : 1 ≤ t
      · by_cases a4 : 9223372036854775 / t < c ∨ c < -(9223372036854775 / t)
        · exact round_out3 i0 i1 t c _ w (by omega) rfl (by omega) (by omega) a3 a4
        · exact round_pos i0 i1 t c m _ _ w r0 r1 (by omega) hm (by omega) (by omega) rfl rfl a3 (by omega) (by omega)
      · by_cases a4 : 9223372036854775 < c ∨ c < -9223372036854775
        · exact round_out4 i0 i1 t c _ w rfl (by omega) (by omega) (by omega) a4
        · exact round_neg i0 i1 t c m w r0 r1 hm (by omega) (by omega) (by omega) (by omega) (by omega)

end Go.Proofs.Qxb6632259a
