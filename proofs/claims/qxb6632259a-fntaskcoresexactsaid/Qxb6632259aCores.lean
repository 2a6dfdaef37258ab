import Derived.Test.Qxb6632259aMembers
import Derived.Test.Qxb6632259aCounts
import Derived.WalkSpells
import Derived.BigQuiet
import Derived.Deep.RegionHeld3
import Derived.Deep.DrawnRows
namespace Go.Proofs.Qxb6632259a
open Go.RowKit
attribute [local go_sem ↓] Go.wp_at_zero Go.wp_at_succ

/-- A job in memory: its roles, its batch, the batch's tasks. -/
structure JobAt (w : World) (jb rb bb n c : Nat) (R : Nat → Nums) (t : Int) : Prop where
  hj : w.cell? ⟨jb, 1, none⟩ = some (.slice (some ⟨rb, 0, none⟩) n c)
  hb : w.cell? ⟨jb, 11, none⟩ = some (.pointer (some ⟨bb, 0, none⟩))
  ht : w.cell? ⟨bb, 10, none⟩ = some (.int .i64 t)
  hr : ∀ i, i < n → RoleAt w rb i (R i)

/-- Not one or two roles, or no member. -/
theorem cores_none (jb rb bb n c : Nat) (R : Nat → Nums) (t : Int) (w : World) (hn : n ≤ 16384) (h : JobAt w jb rb bb n c R t) (hx : n < 1 ∨ 2 < n ∨ msum R n < 1) :
    Calls Try.prog 6 #[.pointer (some ⟨jb, 0, none⟩)] w fun e w' => e = .returned (.tuple #[.int .i64 0, .bool false]) ∧ Below w.heap.size w w' := by
  obtain ⟨hj, hb, ht, hr⟩ := h
  by_cases h0 : n < 1
  · go_enter Try.func6, Try.ntmps6
    go_wp2_with fail
    refine (members_any jb rb n c R w hn hj hr).mono ?_
    rintro e w1 ⟨rfl, b1⟩
    have k1 := keptCell b1 hj
    clear hr
    go_wp2_with fail
    go_ret2
    exact ⟨rfl, b1⟩
  · by_cases h2 : 2 < n
    · have d0 : decide ((n : Int) < 1) = false := by simp; omega
      go_enter Try.func6, Try.ntmps6
      go_wp2_with fail
      refine (members_any jb rb n c R w hn hj hr).mono ?_
      rintro e w1 ⟨rfl, b1⟩
      have k1 := keptCell b1 hj
      clear hr
      go_wp2_with fail
      go_ret2
      exact ⟨rfl, b1⟩
    · have hm : msum R n < 1 := by omega
      have d0 : decide ((n : Int) < 1) = false := by simp; omega
      have d2 : decide ((2 : Int) < n) = false := by simp; omega
      go_enter Try.func6, Try.ntmps6
      go_wp2_with fail
      refine (members_any jb rb n c R w hn hj hr).mono ?_
      rintro e w1 ⟨rfl, b1⟩
      have k1 := keptCell b1 hj
      clear hr
      go_wp2_with fail
      go_ret2
      exact ⟨rfl, b1⟩

end Go.Proofs.Qxb6632259a
