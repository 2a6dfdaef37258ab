import Derived.Test.Qxb6632259aCores2
import Derived.Test.Qxb6632259aArith
namespace Go.Proofs.Qxb6632259a
open Go.RowKit
set_option linter.unusedVariables false

/-- TaskCores, on every job of these roles and tasks, answers so. -/
def Res (n : Nat) (R : Nat → Nums) (t wc : Int) (wo : Bool) : Prop :=
  ∀ w jb rb bb c, JobAt w jb rb bb n c R t → Calls Try.prog 6 #[.pointer (some ⟨jb, 0, none⟩)] w fun e w' => e = .returned (.tuple #[.int .i64 wc, .bool wo]) ∧ Below w.heap.size w w'

theorem res_none {n : Nat} {R : Nat → Nums} {t : Int} (hn : n ≤ 16384) (h : n < 1 ∨ 2 < n ∨ msum R n < 1) : Res n R t 0 false :=
  fun w jb rb bb c hj => cores_none jb rb bb n c R t w hn hj h


theorem res_low1 {R : Nat → Nums} {t H L : Int} {m : Nat} (h1 : 1 ≤ m) (h2 : m ≤ 65536) (ht : t ≤ 9223372036854775) (hH : cnt t m 0 = H) (hL : cnt t m ((m : Int) - 1) = L) (hm : msum R 1 = (m : Int)) (hlow : L < 1) : Res 1 R t 0 false :=
  fun w jb rb bb c hj => cores_low1 jb rb bb c m R t H L w hj hm h1 h2 ht hH hL hlow
theorem res_low2 {R : Nat → Nums} {t H L : Int} {m : Nat} (h1 : 1 ≤ m) (h2 : m ≤ 65536) (ht : t ≤ 9223372036854775) (hH : cnt t m 0 = H) (hL : cnt t m ((m : Int) - 1) = L) (hm : msum R 2 = (m : Int)) (hlow : L < 1) : Res 2 R t 0 false :=
  fun w jb rb bb c hj => cores_low2 jb rb bb c m R t H L w hj hm h1 h2 ht hH hL hlow


theorem res_one {R : Nat → Nums} {t C0 H L : Int} {m : Nat} (h1 : 1 ≤ m) (h2 : m ≤ 65536) (ht : t ≤ 9223372036854775) (hH : cnt t m 0 = H) (hL : cnt t m ((m : Int) - 1) = L) (hC0 : (R 0).cpu = C0) (a0 : -9223372036854775808 ≤ C0) (a1 : C0 ≤ 9223372036854775807) (l1 : 1 ≤ L) (l2 : L ≤ 9223372036854775) (g1 : 1 ≤ H) (g2 : H ≤ 9223372036854775) (hm : msum R 1 = (m : Int)) (hd : C0.tdiv (H * 1000) * (H * 1000) = C0) : Res 1 R t (C0.tdiv (H * 1000)) true :=
  fun w jb rb bb c hj => cores_one jb rb bb c m R t C0 H L w hj hm h1 h2 ht hC0 hH hL l1 l2 g1 g2 (quot_only C0 H a0 a1 g1).1 (quot_only C0 H a0 a1 g1).2 (by rw [(rem_of _ _).1 hd]; rfl)
theorem res_one_no {R : Nat → Nums} {t C0 H L : Int} {m : Nat} (h1 : 1 ≤ m) (h2 : m ≤ 65536) (ht : t ≤ 9223372036854775) (hH : cnt t m 0 = H) (hL : cnt t m ((m : Int) - 1) = L) (hC0 : (R 0).cpu = C0) (a0 : -9223372036854775808 ≤ C0) (a1 : C0 ≤ 9223372036854775807) (l1 : 1 ≤ L) (l2 : L ≤ 9223372036854775) (g1 : 1 ≤ H) (g2 : H ≤ 9223372036854775) (hm : msum R 1 = (m : Int)) (hd : ¬ C0.tdiv (H * 1000) * (H * 1000) = C0) : Res 1 R t 0 false :=
  fun w jb rb bb c hj => cores_one_no jb rb bb c m R t C0 H L w hj hm h1 h2 ht hC0 hH hL l1 l2 g1 g2 (quot_only C0 H a0 a1 g1).1 (quot_only C0 H a0 a1 g1).2 (by rw [bne_iff_ne]; exact fun h => hd ((rem_of _ _).2 h))


theorem res_two_no {R : Nat → Nums} {t C0 C1 H L : Int} {m : Nat} (h1 : 1 ≤ m) (h2 : m ≤ 65536) (ht : t ≤ 9223372036854775) (hH : cnt t m 0 = H) (hL : cnt t m ((m : Int) - 1) = L) (hC0 : (R 0).cpu = C0) (a0 : -9223372036854775808 ≤ C0) (a1 : C0 ≤ 9223372036854775807) (l1 : 1 ≤ L) (l2 : L ≤ 9223372036854775) (g1 : 1 ≤ H) (g2 : H ≤ 9223372036854775) (hC1 : (R 1).cpu = C1) (b0 : -9223372036854775808 ≤ C1) (b1 : C1 ≤ 9223372036854775807) (hm : msum R 2 = (m : Int)) (hd : ¬ C0.tdiv (H * 1000) * (H * 1000) = C0) : Res 2 R t 0 false :=
  fun w jb rb bb c hj => cores_two_no jb rb bb c m R t C0 C1 H L w hj hm h1 h2 ht hC0 hC1 hH hL l1 l2 g1 g2 (quot_only C0 H a0 a1 g1).1 (quot_only C0 H a0 a1 g1).2 (quot_only C1 L b0 b1 l1).1 (quot_only C1 L b0 b1 l1).2 (by rw [bne_iff_ne]; exact fun h => hd ((rem_of _ _).2 h))

theorem res_two_other {R : Nat → Nums} {t C0 C1 H L : Int} {m : Nat} (h1 : 1 ≤ m) (h2 : m ≤ 65536) (ht : t ≤ 9223372036854775) (hH : cnt t m 0 = H) (hL : cnt t m ((m : Int) - 1) = L) (hC0 : (R 0).cpu = C0) (a0 : -9223372036854775808 ≤ C0) (a1 : C0 ≤ 9223372036854775807) (l1 : 1 ≤ L) (l2 : L ≤ 9223372036854775) (g1 : 1 ≤ H) (g2 : H ≤ 9223372036854775) (hC1 : (R 1).cpu = C1) (b0 : -9223372036854775808 ≤ C1) (b1 : C1 ≤ 9223372036854775807) (hm : msum R 2 = (m : Int)) (hd : C0.tdiv (H * 1000) * (H * 1000) = C0) (he : ¬ C0.tdiv (H * 1000) * L * 1000 = C1) : Res 2 R t 0 false := by
  have hd' : (C0.tmod (H * 1000) != 0) = false := by rw [(rem_of _ _).1 hd]; rfl
  by_cases hr : C1.tmod (L * 1000) = 0
  · have hr' := (rem_of _ _).2 hr
    have hne : (C1.tdiv (L * 1000) != C0.tdiv (H * 1000)) = true := by
      rw [bne_iff_ne]
      intro h
      rw [h] at hr'
      exact he (by rw [Int.mul_assoc]; exact hr')
    exact fun w jb rb bb c hj => cores_two_other jb rb bb c m R t C0 C1 H L w hj hm h1 h2 ht hC0 hC1 hH hL l1 l2 g1 g2 (quot_only C0 H a0 a1 g1).1 (quot_only C0 H a0 a1 g1).2 (quot_only C1 L b0 b1 l1).1 (quot_only C1 L b0 b1 l1).2 hd' (by rw [hr]; rfl) hne
  · exact fun w jb rb bb c hj => cores_two_rem jb rb bb c m R t C0 C1 H L w hj hm h1 h2 ht hC0 hC1 hH hL l1 l2 g1 g2 (quot_only C0 H a0 a1 g1).1 (quot_only C0 H a0 a1 g1).2 (quot_only C1 L b0 b1 l1).1 (quot_only C1 L b0 b1 l1).2 hd' (by rw [bne_iff_ne]; exact hr)

theorem res_two {R : Nat → Nums} {t C0 C1 H L : Int} {m : Nat} (h1 : 1 ≤ m) (h2 : m ≤ 65536) (ht : t ≤ 9223372036854775) (hH : cnt t m 0 = H) (hL : cnt t m ((m : Int) - 1) = L) (hC0 : (R 0).cpu = C0) (a0 : -9223372036854775808 ≤ C0) (a1 : C0 ≤ 9223372036854775807) (l1 : 1 ≤ L) (l2 : L ≤ 9223372036854775) (g1 : 1 ≤ H) (g2 : H ≤ 9223372036854775) (hC1 : (R 1).cpu = C1) (b0 : -9223372036854775808 ≤ C1) (b1 : C1 ≤ 9223372036854775807) (hm : msum R 2 = (m : Int)) (hd : C0.tdiv (H * 1000) * (H * 1000) = C0) (he : C0.tdiv (H * 1000) * L * 1000 = C1) : Res 2 R t (C0.tdiv (H * 1000)) true := by
  have hd' : (C0.tmod (H * 1000) != 0) = false := by rw [(rem_of _ _).1 hd]; rfl
  have hq : C1.tdiv (L * 1000) = C0.tdiv (H * 1000) := by
    rw [← he, Int.mul_assoc]
    exact Int.mul_tdiv_cancel _ (by omega)
  have hr : C1.tmod (L * 1000) = 0 := (rem_of _ _).1 (by rw [hq, ← Int.mul_assoc]; exact he)
  have h := fun w jb rb bb c hj => cores_two jb rb bb c m R t C0 C1 H L w hj hm h1 h2 ht hC0 hC1 hH hL l1 l2 g1 g2 (quot_only C0 H a0 a1 g1).1 (quot_only C0 H a0 a1 g1).2 (quot_only C1 L b0 b1 l1).1 (quot_only C1 L b0 b1 l1).2 hd' (by rw [hr]; rfl) (by rw [hq]; simp)
  rw [hq] at h
  exact h

end Go.Proofs.Qxb6632259a
