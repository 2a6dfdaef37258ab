import Derived.Test.Qxb6631331aEq
namespace Go.Proofs.Qxb6631331a
open Go.RowKit

theorem bdrew (w : World) (n : Nat) : Below w.heap.size w (w.drewN n) := below_drewN (Below.refl _ _) n

theorem eqQs_same (p q : Option Addr) (x : Option Qs) (w : World) (hp : IsQs w p x) (hq : IsQs w q x) :
    Calls Try.prog 18 #[.pointer p, .pointer q] w fun e w' => e = .returned (.bool true) ∧ ∃ m, w' = w.drewN m := by
  rcases hp with ⟨rfl, rfl⟩ | ⟨b, o, f, r, pf, pr, rfl, rfl, c0, c1, hf, hr⟩
  · rcases hq with ⟨rfl, _⟩ | ⟨b', o', f', r', pf', pr', _, h, _⟩
    · go_enter Try.func18, Try.ntmps18
      go_wp2
      go_ret
      exact ⟨rfl, 0, rfl⟩
    · simp at h
  · rcases hq with ⟨_, h⟩ | ⟨b', o', f', r', pf', pr', rfl, h, c0', c1', hf', hr'⟩
    · simp at h
    · obtain ⟨rfl, rfl⟩ : f = f' ∧ r = r' := by simpa using h
      clear h
      have k1 : Hid (∀ n, Calls Try.prog 19 #[.pointer pf, .pointer pf'] (w.drewN n) fun e w' => e = .returned (.bool true) ∧ ∃ m, w' = (w.drewN n).drewN m) := fun n => eqInt_same pf pf' f _ (hf.kept (bdrew w n)) (hf'.kept (bdrew w n))
      have k2 : Hid (∀ n, Calls Try.prog 20 #[.pointer pr, .pointer pr'] (w.drewN n) fun e w' => e = .returned (.bool true) ∧ ∃ m, w' = (w.drewN n).drewN m) := fun n => eqArp_same pr pr' r _ (hr.kept (bdrew w n)) (hr'.kept (bdrew w n))
      clear hf hr hf' hr'
      go_enter Try.func18, Try.ntmps18
      go_wp2
      go_quiet ((first | (go_at_call 19; exact Calls.quiet_of (k1.out _)) | (go_at_call 20; exact Calls.quiet_of (k2.out _))))
      go_wp2
      go_ret
      exact ⟨rfl, _, rfl⟩

theorem eqRule_same (p q : Option Addr) (x : Option Rule) (w : World) (hp : IsRule w p x) (hq : IsRule w q x) :
    Calls Try.prog 14 #[.pointer p, .pointer q] w fun e w' => e = .returned (.bool true) ∧ ∃ m, w' = w.drewN m := by
  rcases hp with ⟨rfl, rfl⟩ | ⟨b, o, f, r, pf, pr, rfl, rfl, c0, c1, hf, hr⟩
  · rcases hq with ⟨rfl, _⟩ | ⟨b', o', f', r', pf', pr', _, h, _⟩
    · go_enter Try.func14, Try.ntmps14
      go_wp2
      go_ret
      exact ⟨rfl, 0, rfl⟩
    · simp at h
  · rcases hq with ⟨_, h⟩ | ⟨b', o', f', r', pf', pr', rfl, h, c0', c1', hf', hr'⟩
    · simp at h
    · obtain ⟨rfl, rfl⟩ : f = f' ∧ r = r' := by simpa using h
      clear h
      have k1 : Hid (∀ n, Calls Try.prog 17 #[.pointer pf, .pointer pf'] (w.drewN n) fun e w' => e = .returned (.bool true) ∧ ∃ m, w' = (w.drewN n).drewN m) := fun n => eqAmb_same pf pf' f _ (hf.kept (bdrew w n)) (hf'.kept (bdrew w n))
      have k2 : Hid (∀ n, Calls Try.prog 18 #[.pointer pr, .pointer pr'] (w.drewN n) fun e w' => e = .returned (.bool true) ∧ ∃ m, w' = (w.drewN n).drewN m) := fun n => eqQs_same pr pr' r _ (hr.kept (bdrew w n)) (hr'.kept (bdrew w n))
      clear hf hr hf' hr'
      go_enter Try.func14, Try.ntmps14
      go_wp2
      go_quiet ((first | (go_at_call 17; exact Calls.quiet_of (k1.out _)) | (go_at_call 18; exact Calls.quiet_of (k2.out _))))
      go_wp2
      go_ret
      exact ⟨rfl, _, rfl⟩

end Go.Proofs.Qxb6631331a
