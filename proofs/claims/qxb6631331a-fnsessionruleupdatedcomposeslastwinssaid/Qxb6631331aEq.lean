import Derived.Test.Qxb6631331aMem
import Derived.WalkSpells
import Derived.WalkSmall
import Derived.BigQuiet
namespace Go.Proofs.Qxb6631331a
open Go.RowKit

theorem eqInt_same (p q : Option Addr) (x : Option Int) (w : World) (hp : IsInt w p x) (hq : IsInt w q x) :
    Calls Try.prog 19 #[.pointer p, .pointer q] w fun e w' => e = .returned (.bool true) ∧ ∃ m, w' = w.drewN m := by
  rcases hp with ⟨rfl, rfl⟩ | ⟨b, o, n, rfl, rfl, c0⟩
  · rcases hq with ⟨rfl, _⟩ | ⟨b', o', n', _, h, _⟩
    · go_enter Try.func19, Try.ntmps19
      go_wp2
      go_ret
      exact ⟨rfl, 0, rfl⟩
    · simp at h
  · rcases hq with ⟨_, h⟩ | ⟨b', o', n', rfl, h, c0'⟩
    · simp at h
    · obtain rfl : n = n' := by simpa using h
      clear h
      go_enter Try.func19, Try.ntmps19
      go_wp2
      go_quiet (fail)
      go_wp2
      go_ret
      exact ⟨rfl, _, rfl⟩

theorem eqAmb_same (p q : Option Addr) (x : Option Amb) (w : World) (hp : IsAmb w p x) (hq : IsAmb w q x) :
    Calls Try.prog 17 #[.pointer p, .pointer q] w fun e w' => e = .returned (.bool true) ∧ ∃ m, w' = w.drewN m := by
  rcases hp with ⟨rfl, rfl⟩ | ⟨b, o, u, d, rfl, rfl, c0, c1⟩
  · rcases hq with ⟨rfl, _⟩ | ⟨b', o', u', d', _, h, _⟩
    · go_enter Try.func17, Try.ntmps17
      go_wp2
      go_ret
      exact ⟨rfl, 0, rfl⟩
    · simp at h
  · rcases hq with ⟨_, h⟩ | ⟨b', o', u', d', rfl, h, c0', c1'⟩
    · simp at h
    · obtain ⟨rfl, rfl⟩ : u = u' ∧ d = d' := by simpa using h
      clear h
      go_enter Try.func17, Try.ntmps17
      go_wp2
      go_quiet (fail)
      go_wp2
      go_ret
      exact ⟨rfl, _, rfl⟩

theorem eqArp_same (p q : Option Addr) (x : Option Rarp) (w : World) (hp : IsArp w p x) (hq : IsArp w q x) :
    Calls Try.prog 20 #[.pointer p, .pointer q] w fun e w' => e = .returned (.bool true) ∧ ∃ m, w' = w.drewN m := by
  rcases hp with ⟨rfl, rfl⟩ | ⟨b, o, n, u, d, rfl, rfl, c0, c1, c2⟩
  · rcases hq with ⟨rfl, _⟩ | ⟨b', o', n', u', d', _, h, _⟩
    · go_enter Try.func20, Try.ntmps20
      go_wp2
      go_ret
      exact ⟨rfl, 0, rfl⟩
    · simp at h
  · rcases hq with ⟨_, h⟩ | ⟨b', o', n', u', d', rfl, h, c0', c1', c2'⟩
    · simp at h
    · obtain ⟨rfl, rfl, rfl⟩ : n = n' ∧ u = u' ∧ d = d' := by simpa using h
      clear h
      go_enter Try.func20, Try.ntmps20
      go_wp2
      go_quiet (fail)
      go_wp2
      go_ret
      exact ⟨rfl, _, rfl⟩

end Go.Proofs.Qxb6631331a
