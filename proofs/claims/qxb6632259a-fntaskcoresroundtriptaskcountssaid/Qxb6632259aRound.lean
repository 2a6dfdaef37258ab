import Derived.Test.Qxb6632259aJob2
import Derived.Test.Qxb6632259aCnt
namespace Go.Proofs.Qxb6632259a
open Go.RowKit

set_option maxHeartbeats 1000000 in
theorem round_pos (i0 i1 t c : Int) (m : Nat) (H L : Int) (w : World) (r0 : -9223372036854775808 ≤ i0) (r1 : i0 ≤ 9223372036854775807) (ht : t ≤ 9223372036854775) (hM : wrap64 (i0 + i1) = (m : Int)) (h1 : 1 ≤ m) (h2 : m ≤ 65536)
    (hH : cnt t m 0 = H) (hL : cnt t m ((m : Int) - 1) = L) (ht1 : 1 ≤ t) (hl0 : (c ≤ 9223372036854775 / t)) (hl1 : -(9223372036854775 / t) ≤ c) :
    Calls Try.prog 4 #[.int .i64 i0, .int .i64 i1, .int .i64 t, .int .i64 c] w fun e w' => e = .returned (.bool true) ∧ Below w.heap.size w w' := by
  obtain ⟨f0, f1, f2, f3, f4⟩ := cnt_pos t m ht1 h1
  rw [hH] at f0 f1
  rw [hL] at f2 f3 f4
  have d0 : decide ((m : Int) < 1) = false := by simp; omega
  have d1 : decide (9223372036854775 / t < c) = false := by simpa using hl0
  have l0 : 0 ≤ 9223372036854775 / t := Int.ediv_nonneg (by omega) (by omega)
  have l1 : 9223372036854775 / t ≤ 9223372036854775 := Int.ediv_le_self _ (by omega)
  obtain ⟨p0, p1⟩ := prod_bd c t H ht1 (by omega) f1 hl0 hl1
  obtain ⟨p2, p3⟩ := prod_bd c t L ht1 f2 f3 hl0 hl1
  have HF4 : Hid _ := f4
  clear f4
  go_enter Try.func4, Try.ntmps4
  go_wp2_with fail
  rw [hM]
  refine (counts_any t m w h1 h2 ht).mono ?_
  rintro e w1 ⟨rfl, hown, b1⟩
  have e0 : w1.cell? ⟨w.heap.size, 0, none⟩ = some (.int .i64 H) := by rw [hown.cellAt 0 (by omega), vals_at _ _ _ _ (by omega), if_pos (by omega), ← hH]; rfl
  have e1 : w1.cell? ⟨w.heap.size, m - 1, none⟩ = some (.int .i64 L) := by rw [hown.cellAt (m - 1) (by omega), vals_at _ _ _ _ (by omega), if_pos (by omega), ← hL, show ((m - 1 : Nat) : Int) = (m : Int) - 1 from by omega]
  have HB : Hid (Below w.heap.size w w1) := b1
  have HH : Hid _ := hH
  have HL : Hid _ := hL
  have HM : Hid _ := (msum_two i0 (c * 1000 * H) i1 (c * 1000 * L) r0 r1).trans hM
  clear hown b1 hH hL hM
  go_wp2_with fail
  by_cases hlow : L < 1
  · have hn : ¬ (m : Int) ≤ t := fun h => by have := HF4.out.2 h; omega
    refine (cores_low2 _ _ _ _ m _ t H L _ (job2 w1 i0 (c * 1000 * H) i1 (c * 1000 * L) t) HM.out h1 h2 ht HH.out HL.out hlow).mono ?_
    rintro e w2 ⟨rfl, b2⟩
    have BB : Below w.heap.size w w2 := by
      refine Below.trans ?_ (b2.mono ?_)
      · exact ((HB.out.alloc HB.out.size _).alloc (by have := HB.out.size; simp; omega) _).alloc (by have := HB.out.size; simp; omega) _
      · have := HB.out.size; simp; omega
    clear b2 p0 p1 p2 p3
    have d2 : decide (t ≤ 0) = false := by simp; omega
    have d3 : decide ((m : Int) ≤ t) = false := by simpa using hn
    go_wp2_with fail
    go_ret
    exact ⟨rfl, BB⟩
  · have hy : (m : Int) ≤ t := HF4.out.1 (by omega)
    have t0 := tdiv_form c H f0
    have t1 := tdiv_form c L (by omega)
    refine (cores_two _ _ _ _ m _ t (c * 1000 * H) (c * 1000 * L) H L _ (job2 w1 i0 (c * 1000 * H) i1 (c * 1000 * L) t) HM.out h1 h2 ht rfl rfl HH.out HL.out (by omega) (by omega) f0 (by omega) (by rw [t0]; omega) (by rw [t0]; omega) (by rw [t1]; omega) (by rw [t1]; omega) (by rw [tmod_form]; rfl) (by rw [tmod_form]; rfl) (by rw [t0, t1]; simp)).mono ?_
    rw [t1]
    rintro e w2 ⟨rfl, b2⟩
    have BB : Below w.heap.size w w2 := by
      refine Below.trans ?_ (b2.mono ?_)
      · exact ((HB.out.alloc HB.out.size _).alloc (by have := HB.out.size; simp; omega) _).alloc (by have := HB.out.size; simp; omega) _
      · have := HB.out.size; simp; omega
    clear b2 p0 p1 p2 p3 t0 t1
    have d2 : decide (t ≤ 0) = false := by simp; omega
    go_wp2_with fail
    go_ret
    exact ⟨rfl, BB⟩

end Go.Proofs.Qxb6632259a
