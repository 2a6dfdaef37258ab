import Derived.Test.Qxb6631331aRows
import Derived.WalkKit
namespace Go.Proofs.Qxb6631331a
open Go.RowKit

/-- An AMBR: its two strings. -/
structure Amb where
  up : ByteArray
  down : ByteArray
/-- An ARP: its level and two strings. -/
structure Rarp where
  lvl : Int
  cap : ByteArray
  vuln : ByteArray
/-- A default QoS. -/
structure Qs where
  five : Option Int
  arp : Option Rarp
/-- A session rule. -/
structure Rule where
  ambr : Option Amb
  qos : Option Qs

/-- The pointer p leads to x: nil for none. -/
def IsInt (w : World) (p : Option Addr) (x : Option Int) : Prop :=
  (p = none ∧ x = none) ∨ ∃ b o n, p = some ⟨b, o, none⟩ ∧ x = some n ∧ w.cell? ⟨b, o, none⟩ = some (.int .i64 n)
def IsAmb (w : World) (p : Option Addr) (x : Option Amb) : Prop :=
  (p = none ∧ x = none) ∨ ∃ b o u d, p = some ⟨b, o, none⟩ ∧ x = some ⟨u, d⟩ ∧ w.cell? ⟨b, o, none⟩ = some (.string u) ∧ w.cell? ⟨b, o + 1, none⟩ = some (.string d)
def IsArp (w : World) (p : Option Addr) (x : Option Rarp) : Prop :=
  (p = none ∧ x = none) ∨ ∃ b o n c v, p = some ⟨b, o, none⟩ ∧ x = some ⟨n, c, v⟩ ∧ w.cell? ⟨b, o, none⟩ = some (.int .i64 n) ∧ w.cell? ⟨b, o + 1, none⟩ = some (.string c) ∧ w.cell? ⟨b, o + 2, none⟩ = some (.string v)
def IsQs (w : World) (p : Option Addr) (x : Option Qs) : Prop :=
  (p = none ∧ x = none) ∨ ∃ b o f r pf pr, p = some ⟨b, o, none⟩ ∧ x = some ⟨f, r⟩ ∧ w.cell? ⟨b, o, none⟩ = some (.pointer pf) ∧ w.cell? ⟨b, o + 1, none⟩ = some (.pointer pr) ∧ IsInt w pf f ∧ IsArp w pr r
def IsRule (w : World) (p : Option Addr) (x : Option Rule) : Prop :=
  (p = none ∧ x = none) ∨ ∃ b o a q pa pq, p = some ⟨b, o, none⟩ ∧ x = some ⟨a, q⟩ ∧ w.cell? ⟨b, o, none⟩ = some (.pointer pa) ∧ w.cell? ⟨b, o + 1, none⟩ = some (.pointer pq) ∧ IsAmb w pa a ∧ IsQs w pq q

theorem keptCell {w w' : World} (hb : Below w.heap.size w w') {p : Addr} {v : Value} (h : w.cell? p = some v) : w'.cell? p = some v :=
  (hb.cell (World.block_lt_of_cell? w _ h)).trans h

theorem IsInt.kept {w w' : World} {p : Option Addr} {x : Option Int} (h : IsInt w p x) (hb : Below w.heap.size w w') : IsInt w' p x := by
  rcases h with h | ⟨b, o, n, h1, h2, c0⟩
  · exact Or.inl h
  · exact Or.inr ⟨b, o, n, h1, h2, keptCell hb c0⟩
theorem IsAmb.kept {w w' : World} {p : Option Addr} {x : Option Amb} (h : IsAmb w p x) (hb : Below w.heap.size w w') : IsAmb w' p x := by
  rcases h with h | ⟨b, o, u, d, h1, h2, c0, c1⟩
  · exact Or.inl h
  · exact Or.inr ⟨b, o, u, d, h1, h2, keptCell hb c0, keptCell hb c1⟩
theorem IsArp.kept {w w' : World} {p : Option Addr} {x : Option Rarp} (h : IsArp w p x) (hb : Below w.heap.size w w') : IsArp w' p x := by
  rcases h with h | ⟨b, o, n, c, v, h1, h2, c0, c1, c2⟩
  · exact Or.inl h
  · exact Or.inr ⟨b, o, n, c, v, h1, h2, keptCell hb c0, keptCell hb c1, keptCell hb c2⟩
theorem IsQs.kept {w w' : World} {p : Option Addr} {x : Option Qs} (h : IsQs w p x) (hb : Below w.heap.size w w') : IsQs w' p x := by
  rcases h with h | ⟨b, o, f, r, pf, pr, h1, h2, c0, c1, hf, hr⟩
  · exact Or.inl h
  · exact Or.inr ⟨b, o, f, r, pf, pr, h1, h2, keptCell hb c0, keptCell hb c1, hf.kept hb, hr.kept hb⟩
theorem IsRule.kept {w w' : World} {p : Option Addr} {x : Option Rule} (h : IsRule w p x) (hb : Below w.heap.size w w') : IsRule w' p x := by
  rcases h with h | ⟨b, o, f, r, pf, pr, h1, h2, c0, c1, hf, hr⟩
  · exact Or.inl h
  · exact Or.inr ⟨b, o, f, r, pf, pr, h1, h2, keptCell hb c0, keptCell hb c1, hf.kept hb, hr.kept hb⟩

theorem IsInt.nil (w : World) : IsInt w none none := Or.inl ⟨rfl, rfl⟩
theorem IsAmb.nil (w : World) : IsAmb w none none := Or.inl ⟨rfl, rfl⟩
theorem IsArp.nil (w : World) : IsArp w none none := Or.inl ⟨rfl, rfl⟩
theorem IsQs.nil (w : World) : IsQs w none none := Or.inl ⟨rfl, rfl⟩
theorem IsRule.nil (w : World) : IsRule w none none := Or.inl ⟨rfl, rfl⟩

/-- What Updated makes of a rule and a change. -/
def upd (r : Option Rule) (c : Rule) : Rule :=
  { ambr := c.ambr.or (r.bind Rule.ambr)
    qos := match c.qos with
      | none => r.bind Rule.qos
      | some q => some { five := q.five.or ((r.bind Rule.qos).bind Qs.five), arp := q.arp.or ((r.bind Rule.qos).bind Qs.arp) } }

theorem upd_empty (r : Option Rule) : upd r ⟨none, none⟩ = r.getD ⟨none, none⟩ := by
  cases r <;> rfl

theorem upd_twice (r : Option Rule) (c : Rule) : upd (some (upd r c)) c = upd r c := by
  rcases c with ⟨ca, cq⟩
  rcases cq with _ | ⟨cf, cr⟩
  · cases ca <;> simp [upd]
  · cases ca <;> cases cf <;> cases cr <;> simp [upd]

/-- The last one wins. -/
def last (r : Option Rule) (a b : Rule) : Rule :=
  { ambr := b.ambr.or (a.ambr.or (r.bind Rule.ambr))
    qos := match a.qos, b.qos with
      | none, none => r.bind Rule.qos
      | _, _ => some { five := (b.qos.bind Qs.five).or ((a.qos.bind Qs.five).or ((r.bind Rule.qos).bind Qs.five)), arp := (b.qos.bind Qs.arp).or ((a.qos.bind Qs.arp).or ((r.bind Rule.qos).bind Qs.arp)) } }

theorem upd_left (r : Option Rule) (a b : Rule) : upd (some (upd r a)) b = last r a b := by
  rcases a with ⟨aa, aq⟩
  rcases b with ⟨ba, bq⟩
  rcases aq with _ | ⟨af, ar⟩ <;> rcases bq with _ | ⟨bf, br⟩ <;> simp [upd, last]

theorem upd_right (r : Option Rule) (a b : Rule) : upd r (upd (some a) b) = last r a b := by
  rcases a with ⟨aa, aq⟩
  rcases b with ⟨ba, bq⟩
  rcases aq with _ | ⟨af, ar⟩ <;> rcases bq with _ | ⟨bf, br⟩ <;> simp [upd, last, Option.or_assoc]

end Go.Proofs.Qxb6631331a
