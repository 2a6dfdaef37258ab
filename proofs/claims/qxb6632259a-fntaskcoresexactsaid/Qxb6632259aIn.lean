import Derived.Test.Qxb6632259aRow
namespace Go.Proofs.Qxb6632259a
open Go.RowKit

/-- Element i of the slice that came in. -/
structure InAt (w : World) (b off i : Nat) (r : Nums) : Prop where
  c0 : w.cell? ⟨b, off + i * 5, none⟩ = some (.int .i64 r.inst)
  c1 : w.cell? ⟨b, off + i * 5 + 1, none⟩ = some (.int .i64 r.min)
  c2 : w.cell? ⟨b, off + i * 5 + 2, none⟩ = some (.int .i64 r.gpu)
  c3 : w.cell? ⟨b, off + i * 5 + 3, none⟩ = some (.int .i64 r.cpu)
  c4 : w.cell? ⟨b, off + i * 5 + 4, none⟩ = some (.int .i64 r.mem)

/-- The slice that came in. -/
def Ins (w : World) (ao : Option Addr) (n : Nat) (R : Nat → Nums) : Prop :=
  ∀ i, i < n → ∃ b off, ao = some ⟨b, off, none⟩ ∧ InAt w b off i (R i)

theorem InAt.kept {w w' : World} {b off i : Nat} {r : Nums} (h : InAt w b off i r) (hb : Below w.heap.size w w') : InAt w' b off i r :=
  ⟨keptCell hb h.c0, keptCell hb h.c1, keptCell hb h.c2, keptCell hb h.c3, keptCell hb h.c4⟩

theorem Ins.addr {w : World} {ao : Option Addr} {n : Nat} {R : Nat → Nums} (h : Ins w ao n R) (hn : 0 < n) : ∃ b off, ao = some ⟨b, off, none⟩ := by
  obtain ⟨b, off, e, _⟩ := h 0 hn
  exact ⟨b, off, e⟩

theorem Ins.cellsAt {w : World} {b off : Nat} {n : Nat} {R : Nat → Nums} (h : Ins w (some ⟨b, off, none⟩) n R) (i : Nat) (hi : i < n) : InAt w b off i (R i) := by
  obtain ⟨b', off', e, hc⟩ := h i hi
  simp at e
  obtain ⟨rfl, rfl⟩ := e
  exact hc


end Go.Proofs.Qxb6632259a
