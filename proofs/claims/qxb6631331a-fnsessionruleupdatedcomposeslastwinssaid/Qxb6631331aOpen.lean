import Derived.Test.Qxb6631331aMem
import Derived.ProofKit
import Derived.Deep.Fields23
import Derived.Lib.SmallJoins
namespace Go.Proofs.Qxb6631331a
open Go.ChangeShapes Go.WideShapes Go.ChangeAt Go.RowKit Go.Deep

section
variable {H : Type} {enc : TypeId × Value → H} {W : World} {base : Nat} {spare : Nat → Bool} {held : Bool} {fuel : Nat} {v : Value} {y : DataW H × List MemPlace}

theorem Try.cells3 : Try.prog.cellsOf 3 = 1 := by kernel_rfl

theorem open_fiv (h : DataW.trod enc Try.prog W base spare held fuel 30 [v] = some y) : ∃ p x, v = .pointer p ∧ IsInt W p x := by
  rcases DataW.trod_pointer Try.underlying30 h with ⟨hc, _⟩ | ⟨a, cs, z, m, _, hc, _, hcells, hd⟩
  · simp at hc
    exact ⟨none, none, hc, IsInt.nil W⟩
  · simp at hc
    obtain ⟨n, rfl, _, _⟩ := DataW.trod_int Try.underlying3 hd
    rw [Try.cells3] at hcells
    obtain ⟨_, _, hcell⟩ := World.cells?_some hcells
    have g0 := hcell 0 (by omega)
    obtain ⟨b, off, spot⟩ := a
    have hspot : spot = none := by simpa [Addr.add] using World.cell?_spot g0
    subst hspot
    exact ⟨_, some n, hc, Or.inr ⟨b, off, n, rfl, rfl, by simpa [Addr.add] using g0⟩⟩

theorem open_amb (h : DataW.trod enc Try.prog W base spare held fuel 23 [v] = some y) : ∃ p x, v = .pointer p ∧ IsAmb W p x := by
  rcases open_ptr_fields2 Try.underlying23 Try.underlying48 (by kernel_rfl) (by kernel_rfl) h with ⟨hc, _⟩ | ⟨b, o, m, v0, v1, y0, y1, hc, _, _, c0, c1, t0, t1⟩
  · simp at hc
    exact ⟨none, none, hc, IsAmb.nil W⟩
  · simp at hc
    obtain ⟨s0, e0, _, _⟩ := DataW.trod_string Try.underlying9 t0
    obtain ⟨s1, e1, _, _⟩ := DataW.trod_string Try.underlying9 t1
    simp at e0 e1
    subst e0 e1
    exact ⟨_, _, hc, Or.inr ⟨b, o, s0, s1, rfl, rfl, c0, c1⟩⟩

theorem open_arp (h : DataW.trod enc Try.prog W base spare held fuel 31 [v] = some y) : ∃ p x, v = .pointer p ∧ IsArp W p x := by
  rcases open_ptr_fields3 Try.underlying31 Try.underlying50 (by kernel_rfl) (by kernel_rfl) h with ⟨hc, _⟩ | ⟨b, o, m, v0, v1, v2, y0, y1, y2, hc, _, _, c0, c1, c2, t0, t1, t2⟩
  · simp at hc
    exact ⟨none, none, hc, IsArp.nil W⟩
  · simp at hc
    obtain ⟨n0, e0, _, _⟩ := DataW.trod_int Try.underlying3 t0
    obtain ⟨s1, e1, _, _⟩ := DataW.trod_string Try.underlying9 t1
    obtain ⟨s2, e2, _, _⟩ := DataW.trod_string Try.underlying9 t2
    simp at e0 e1 e2
    subst e0 e1 e2
    exact ⟨_, _, hc, Or.inr ⟨b, o, n0, s1, s2, rfl, rfl, c0, c1, c2⟩⟩

theorem open_qos (h : DataW.trod enc Try.prog W base spare held fuel 24 [v] = some y) : ∃ p x, v = .pointer p ∧ IsQs W p x := by
  rcases open_ptr_fields2 Try.underlying24 Try.underlying33 (by kernel_rfl) (by kernel_rfl) h with ⟨hc, _⟩ | ⟨b, o, m, v0, v1, y0, y1, hc, _, _, c0, c1, t0, t1⟩
  · simp at hc
    exact ⟨none, none, hc, IsQs.nil W⟩
  · simp at hc
    obtain ⟨p0, x0, e0, i0⟩ := open_fiv t0
    obtain ⟨p1, x1, e1, i1⟩ := open_arp t1
    subst e0 e1
    exact ⟨_, _, hc, Or.inr ⟨b, o, x0, x1, p0, p1, rfl, rfl, c0, c1, i0, i1⟩⟩

theorem open_rule (h : DataW.trod enc Try.prog W base spare held fuel 22 [v] = some y) : ∃ p x, v = .pointer p ∧ IsRule W p x := by
  rcases open_ptr_fields2 Try.underlying22 Try.underlying26 (by kernel_rfl) (by kernel_rfl) h with ⟨hc, _⟩ | ⟨b, o, m, v0, v1, y0, y1, hc, _, _, c0, c1, t0, t1⟩
  · simp at hc
    exact ⟨none, none, hc, IsRule.nil W⟩
  · simp at hc
    obtain ⟨p0, x0, e0, i0⟩ := open_amb t0
    obtain ⟨p1, x1, e1, i1⟩ := open_qos t1
    subst e0 e1
    exact ⟨_, _, hc, Or.inr ⟨b, o, x0, x1, p0, p1, rfl, rfl, c0, c1, i0, i1⟩⟩

/-- Argument 0: a pointer to a rule. -/
theorem arg_ptr {r : Reach} {b0 : Nat} {d : DataW H} {ps : List MemPlace} (hval : Value.okWide Try.prog W r b0 22 v) (h : DataW.Trod enc Try.prog W base spare held 22 v d ps) : ∃ p x, v = .pointer p ∧ IsRule W p x := by
  obtain ⟨a, rfl⟩ := okWide_pointer Try.underlying22 hval
  obtain ⟨fuel, hf⟩ := h
  exact open_rule (v := .pointer a) (by simpa [Value.cells] using hf)

/-- A rule by value. -/
theorem arg_val {r : Reach} {b0 : Nat} {d : DataW H} {ps : List MemPlace} (hval : Value.okWide Try.prog W r b0 26 v) (h : DataW.Trod enc Try.prog W base spare held 26 v d ps) : ∃ pa pq A Q, v = .agg #[.pointer pa, .pointer pq] ∧ IsAmb W pa A ∧ IsQs W pq Q := by
  obtain ⟨v0, v1, y0, y1, n, hv, _, _, t0, t1⟩ := Joins.open_agg2 Try.underlying26 (by kernel_rfl) (by kernel_rfl) hval h
  obtain ⟨p0, x0, e0, i0⟩ := open_amb t0
  obtain ⟨p1, x1, e1, i1⟩ := open_qos t1
  subst e0 e1
  exact ⟨p0, p1, x0, x1, hv, i0, i1⟩
end

end Go.Proofs.Qxb6631331a
