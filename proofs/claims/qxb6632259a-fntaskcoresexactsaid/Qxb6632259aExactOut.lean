import Derived.Test.Qxb6632259aIn
namespace Go.Proofs.Qxb6632259a
open Go.RowKit

theorem exact_long (ao : Option Addr) (n cap : Nat) (t : Int) (w : World) (hm : n ≤ maxLen) (hn : 16384 < n) :
    Calls Try.prog 3 #[.slice ao n cap, .int .i64 t] w fun e w' => e = .returned (.bool true) ∧ Below w.heap.size w w' := by
  unfold maxLen at hm
  go_enter Try.func3, Try.ntmps3
  go_wp2
  all_goals (go_ret; exact ⟨rfl, Below.refl _ _⟩)

theorem exact_tasks (ao : Option Addr) (n cap : Nat) (t : Int) (w : World) (hn : n ≤ 16384) (ht : 9223372036854775 < t) :
    Calls Try.prog 3 #[.slice ao n cap, .int .i64 t] w fun e w' => e = .returned (.bool true) ∧ Below w.heap.size w w' := by
  go_enter Try.func3, Try.ntmps3
  go_wp2
  all_goals (go_ret; exact ⟨rfl, Below.refl _ _⟩)

end Go.Proofs.Qxb6632259a
