import Derived.Test.Qxb6632259aCores2
namespace Go.Proofs.Qxb6632259a
open Go.RowKit

/-- Two roles. -/
def two (i0 C0 i1 C1 : Int) (i : Nat) : Nums := if i = 0 then ⟨i0, 0, 0, C0, 0⟩ else ⟨i1, 0, 0, C1, 0⟩

theorem job2 (w : World) (i0 C0 i1 C1 t : Int) :
    JobAt (((w.alloc (.cells #[.string { data := #[] }, .int .i64 i0, .int .i64 0, .int .i64 0, .int .i64 C0, .int .i64 0, .slice none 0 0, .slice none 0 0, .string { data := #[] }, .int .i64 i1, .int .i64 0, .int .i64 0, .int .i64 C1, .int .i64 0, .slice none 0 0, .slice none 0 0] 31)).alloc (.cells #[.slice none 0 0, .slice none 0 0, .string { data := #[] }, .slice none 0 0, .string { data := #[] }, .string { data := #[] }, .bool false, .string { data := #[] }, .string { data := #[] }, .string { data := #[] }, .int .i64 t, .int .i64 0] 36)).alloc (.cells #[.string { data := #[] }, .slice (some ⟨w.heap.size, 0, none⟩) 2 2, .int .i64 0, .bool false, .string { data := #[] }, .string { data := #[] }, .int .i64 0, .pointer none, .int .i64 0, .bool false, .pointer none, .pointer (some ⟨w.heap.size + 1, 0, none⟩)] 42)) (w.heap.size + 1 + 1) w.heap.size (w.heap.size + 1) 2 2 (two i0 C0 i1 C1) t := by
  refine ⟨?_, ?_, ?_, ?_⟩
  · refine (World.cell?_alloc_at _ _ _ _ ?_).trans rfl
    simp
  · refine (World.cell?_alloc_at _ _ _ _ ?_).trans rfl
    simp
  · refine (World.cell?_alloc_past _ _ _ ?_).trans ((World.cell?_alloc_at _ _ _ _ ?_).trans rfl)
    · simp
    · simp
  · intro i hi
    have hs1 : w.heap.size < ((w.alloc (.cells #[.string { data := #[] }, .int .i64 i0, .int .i64 0, .int .i64 0, .int .i64 C0, .int .i64 0, .slice none 0 0, .slice none 0 0, .string { data := #[] }, .int .i64 i1, .int .i64 0, .int .i64 0, .int .i64 C1, .int .i64 0, .slice none 0 0, .slice none 0 0] 31)).alloc (.cells #[.slice none 0 0, .slice none 0 0, .string { data := #[] }, .slice none 0 0, .string { data := #[] }, .string { data := #[] }, .bool false, .string { data := #[] }, .string { data := #[] }, .string { data := #[] }, .int .i64 t, .int .i64 0] 36)).heap.size := by simp; omega
    have hs2 : w.heap.size < (w.alloc (.cells #[.string { data := #[] }, .int .i64 i0, .int .i64 0, .int .i64 0, .int .i64 C0, .int .i64 0, .slice none 0 0, .slice none 0 0, .string { data := #[] }, .int .i64 i1, .int .i64 0, .int .i64 0, .int .i64 C1, .int .i64 0, .slice none 0 0, .slice none 0 0] 31)).heap.size := by simp
    have hi' : i = 0 ∨ i = 1 := by omega
    rcases hi' with rfl | rfl
    · exact ⟨(World.cell?_alloc_past _ _ _ hs1).trans ((World.cell?_alloc_past _ _ _ hs2).trans ((World.cell?_alloc_at _ _ _ _ rfl).trans rfl)), (World.cell?_alloc_past _ _ _ hs1).trans ((World.cell?_alloc_past _ _ _ hs2).trans ((World.cell?_alloc_at _ _ _ _ rfl).trans rfl)), (World.cell?_alloc_past _ _ _ hs1).trans ((World.cell?_alloc_past _ _ _ hs2).trans ((World.cell?_alloc_at _ _ _ _ rfl).trans rfl)), (World.cell?_alloc_past _ _ _ hs1).trans ((World.cell?_alloc_past _ _ _ hs2).trans ((World.cell?_alloc_at _ _ _ _ rfl).trans rfl)), (World.cell?_alloc_past _ _ _ hs1).trans ((World.cell?_alloc_past _ _ _ hs2).trans ((World.cell?_alloc_at _ _ _ _ rfl).trans rfl)), (World.cell?_alloc_past _ _ _ hs1).trans ((World.cell?_alloc_past _ _ _ hs2).trans ((World.cell?_alloc_at _ _ _ _ rfl).trans rfl)), (World.cell?_alloc_past _ _ _ hs1).trans ((World.cell?_alloc_past _ _ _ hs2).trans ((World.cell?_alloc_at _ _ _ _ rfl).trans rfl)), (World.cell?_alloc_past _ _ _ hs1).trans ((World.cell?_alloc_past _ _ _ hs2).trans ((World.cell?_alloc_at _ _ _ _ rfl).trans rfl))⟩
    · exact ⟨(World.cell?_alloc_past _ _ _ hs1).trans ((World.cell?_alloc_past _ _ _ hs2).trans ((World.cell?_alloc_at _ _ _ _ rfl).trans rfl)), (World.cell?_alloc_past _ _ _ hs1).trans ((World.cell?_alloc_past _ _ _ hs2).trans ((World.cell?_alloc_at _ _ _ _ rfl).trans rfl)), (World.cell?_alloc_past _ _ _ hs1).trans ((World.cell?_alloc_past _ _ _ hs2).trans ((World.cell?_alloc_at _ _ _ _ rfl).trans rfl)), (World.cell?_alloc_past _ _ _ hs1).trans ((World.cell?_alloc_past _ _ _ hs2).trans ((World.cell?_alloc_at _ _ _ _ rfl).trans rfl)), (World.cell?_alloc_past _ _ _ hs1).trans ((World.cell?_alloc_past _ _ _ hs2).trans ((World.cell?_alloc_at _ _ _ _ rfl).trans rfl)), (World.cell?_alloc_past _ _ _ hs1).trans ((World.cell?_alloc_past _ _ _ hs2).trans ((World.cell?_alloc_at _ _ _ _ rfl).trans rfl)), (World.cell?_alloc_past _ _ _ hs1).trans ((World.cell?_alloc_past _ _ _ hs2).trans ((World.cell?_alloc_at _ _ _ _ rfl).trans rfl)), (World.cell?_alloc_past _ _ _ hs1).trans ((World.cell?_alloc_past _ _ _ hs2).trans ((World.cell?_alloc_at _ _ _ _ rfl).trans rfl))⟩

theorem mul_form (c H : Int) : c * 1000 * H = c * (H * 1000) := by rw [Int.mul_assoc, Int.mul_comm 1000 H]

theorem tmod_form (c H : Int) : (c * 1000 * H).tmod (H * 1000) = 0 := by rw [mul_form]; exact Int.mul_tmod_left _ _
theorem tdiv_form (c H : Int) (h : 1 ≤ H) : (c * 1000 * H).tdiv (H * 1000) = c := by rw [mul_form]; exact Int.mul_tdiv_cancel _ (by omega)

theorem msum_two (i0 C0 i1 C1 : Int) (h0 : -9223372036854775808 ≤ i0) (h1 : i0 ≤ 9223372036854775807) : msum (two i0 C0 i1 C1) 2 = wrap64 (i0 + i1) := by
  have e : wrap64 (0 + i0) = i0 := by rw [Int.zero_add]; exact IntWalk.wrap64_in i0 ⟨by omega, by omega⟩
  show wrap64 (wrap64 (0 + i0) + i1) = _
  rw [e]

/-- |c| * H stays within what the law bounds. -/
theorem prod_bd (c k H : Int) (hk : 1 ≤ k) (h0 : 0 ≤ H) (h1 : H ≤ k) (hc : c ≤ 9223372036854775 / k) (hc' : -(9223372036854775 / k) ≤ c) : -9223372036854775000 ≤ c * 1000 * H ∧ c * 1000 * H ≤ 9223372036854775000 := by
  have hq : 9223372036854775 / k * k ≤ 9223372036854775 := Int.ediv_mul_le _ (by omega)
  generalize 9223372036854775 / k = q at *
  have hq0 : 0 ≤ q := by omega
  have e : c * 1000 * H = c * H * 1000 := by rw [Int.mul_assoc, Int.mul_comm 1000 H, ← Int.mul_assoc]
  have a1 : c * H ≤ q * H := Int.mul_le_mul_of_nonneg_right hc h0
  have a2 : -q * H ≤ c * H := Int.mul_le_mul_of_nonneg_right hc' h0
  have a3 : q * H ≤ q * k := Int.mul_le_mul_of_nonneg_left h1 hq0
  have a4 : -q * H = -(q * H) := Int.neg_mul _ _
  rw [e]
  omega

end Go.Proofs.Qxb6632259a
