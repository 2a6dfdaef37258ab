import Derived.Test.Qxb6631331aUpd2
namespace Go.Proofs.Qxb6631331a
open Go.RowKit

theorem pick7 (p q : Option Addr) (w : World) : Calls Try.prog 7 #[.pointer p, .pointer q] w fun e w' => e = .returned (.pointer (p.or q)) ∧ w' = w := by
  cases p
  all_goals
    go_enter Try.func7, Try.ntmps7
    go_wp2
    go_ret
    exact ⟨rfl, rfl⟩
theorem pick8 (p q : Option Addr) (w : World) : Calls Try.prog 8 #[.pointer p, .pointer q] w fun e w' => e = .returned (.pointer (p.or q)) ∧ w' = w := by
  cases p
  all_goals
    go_enter Try.func8, Try.ntmps8
    go_wp2
    go_ret
    exact ⟨rfl, rfl⟩
theorem pick10 (p q : Option Addr) (w : World) : Calls Try.prog 10 #[.pointer p, .pointer q] w fun e w' => e = .returned (.pointer (p.or q)) ∧ w' = w := by
  cases p
  all_goals
    go_enter Try.func10, Try.ntmps10
    go_wp2
    go_ret
    exact ⟨rfl, rfl⟩

/-- The two fields behind a pointer to a QoS; nil behind nil. -/
def TwoAt (w : World) (p f r : Option Addr) : Prop :=
  (p = none ∧ f = none ∧ r = none) ∨ ∃ b o, p = some ⟨b, o, none⟩ ∧ w.cell? ⟨b, o, none⟩ = some (.pointer f) ∧ w.cell? ⟨b, o + 1, none⟩ = some (.pointer r)

theorem TwoAt.kept {w w' : World} {p f r : Option Addr} (h : TwoAt w p f r) (hb : Below w.heap.size w w') : TwoAt w' p f r := by
  rcases h with h | ⟨b, o, h1, c0, c1⟩
  · exact Or.inl h
  · exact Or.inr ⟨b, o, h1, keptCell hb c0, keptCell hb c1⟩

theorem IsQs.two {w : World} {p : Option Addr} {x : Option Qs} (h : IsQs w p x) : ∃ f r, TwoAt w p f r ∧ IsInt w f (x.bind Qs.five) ∧ IsArp w r (x.bind Qs.arp) := by
  rcases h with ⟨rfl, rfl⟩ | ⟨b, o, f, r, pf, pr, rfl, rfl, c0, c1, hf, hr⟩
  · exact ⟨none, none, Or.inl ⟨rfl, rfl, rfl⟩, IsInt.nil w, IsArp.nil w⟩
  · exact ⟨pf, pr, Or.inr ⟨b, o, rfl, c0, c1⟩, hf, hr⟩

theorem five9 (p f r : Option Addr) (w : World) (h : TwoAt w p f r) : Calls Try.prog 9 #[.pointer p] w fun e w' => e = .returned (.pointer f) ∧ w' = w := by
  rcases h with ⟨rfl, rfl, rfl⟩ | ⟨b, o, rfl, c0, c1⟩
  all_goals
    go_enter Try.func9, Try.ntmps9
    go_wp2
    go_ret
    exact ⟨rfl, rfl⟩
theorem arp11 (p f r : Option Addr) (w : World) (h : TwoAt w p f r) : Calls Try.prog 11 #[.pointer p] w fun e w' => e = .returned (.pointer r) ∧ w' = w := by
  rcases h with ⟨rfl, rfl, rfl⟩ | ⟨b, o, rfl, c0, c1⟩
  all_goals
    go_enter Try.func11, Try.ntmps11
    go_wp2
    go_ret
    exact ⟨rfl, rfl⟩

end Go.Proofs.Qxb6631331a
