import Derived.Test.Qxb6631331aUpd
namespace Go.Proofs.Qxb6631331a
open Go.RowKit

theorem three {b n : Nat} (h : b < n) : b < n + 1 ∧ b < n + 1 + 1 ∧ b < n + 1 + 1 + 1 ∧ b < n + 1 + 1 + 1 + 1 := by omega
theorem keep5 {w W : World} {p1 p2 p3 p4 p5 : Addr} {v1 v2 v3 v4 v5 : Value} (h : Below w.heap.size w W) (h1 : w.cell? p1 = some v1) (h2 : w.cell? p2 = some v2) (h3 : w.cell? p3 = some v3) (h4 : w.cell? p4 = some v4) (h5 : w.cell? p5 = some v5) :
    W.cell? p1 = some v1 ∧ W.cell? p2 = some v2 ∧ W.cell? p3 = some v3 ∧ W.cell? p4 = some v4 ∧ W.cell? p5 = some v5 :=
  ⟨keptCell h h1, keptCell h h2, keptCell h h3, keptCell h h4, keptCell h h5⟩
theorem keep3 {w W : World} {p1 p2 p3 : Addr} {v1 v2 v3 : Value} (h : Below w.heap.size w W) (h1 : w.cell? p1 = some v1) (h2 : w.cell? p2 = some v2) (h3 : w.cell? p3 = some v3) :
    W.cell? p1 = some v1 ∧ W.cell? p2 = some v2 ∧ W.cell? p3 = some v3 :=
  ⟨keptCell h h1, keptCell h h2, keptCell h h3⟩

end Go.Proofs.Qxb6631331a
