import Derived.Test.Qxb6632259aRes
namespace Go.Proofs.Qxb6632259a
open Go.RowKit

theorem Try.info31 : (Try.prog.info? 31).map (fun i => (i.zero, i.size, i.bytes)) = some (some (.agg #[.string { data := #[] }, .int .i64 0, .int .i64 0, .int .i64 0, .int .i64 0, .int .i64 0, .slice none 0 0, .slice none 0 0]), 8, 104) := by kernel_rfl

/-- The row of roles in block B, the first k of them laid. -/
def RowTo (w : World) (B n k : Nat) (R : Nat → Nums) : Prop :=
  (∃ cur : Array Value, w.heap[B]? = some (.cells cur 31 (0, 0)) ∧ cur.size = n * 8) ∧ ∀ i, i < k → RoleAt w B i (R i)

theorem RowTo.cellOf {w : World} {B n k : Nat} {R : Nat → Nums} (h : RowTo w B n k R) (j : Nat) (hj : j < n * 8) : ∃ v, w.cell? ⟨B, j, none⟩ = some v := by
  obtain ⟨⟨cur, hc, hs⟩, _⟩ := h
  rw [cell_of_row w B j cur 31 (0, 0) hc, Array.getElem?_eq_getElem (by omega)]
  exact ⟨_, rfl⟩

theorem RowTo.free {w : World} {B n k : Nat} {R : Nat → Nums} (h : RowTo w B n k R) (j : Nat) : w.frozen? ⟨B, j, none⟩ = false := by
  obtain ⟨⟨cur, hc, hs⟩, _⟩ := h
  exact frozen_of_row w B j cur 31 hc

theorem row_of_own {w : World} {B n : Nat} {R : Nat → Nums} {xs : List Value} (h : w.ownsRow B 31 8 (.slice (some ⟨B, 0, none⟩) n n) n xs) : RowTo w B n 0 R := by
  rcases h.2 with ⟨h', _⟩ | ⟨g, cap, cur, h', _, hg, _, _, hcs, _⟩
  · simp at h'
  · simp only [Value.slice.injEq, Option.some.injEq, Addr.mk.injEq, and_true, true_and] at h'
    obtain ⟨rfl, rfl⟩ := h'
    exact ⟨⟨cur, hg, hcs⟩, fun i hi => by omega⟩

/-- One more cell written. -/
theorem RowTo.put {w : World} {B n k : Nat} {R : Nat → Nums} (h : RowTo w B n k R) (c : Nat) (hc : k * 8 ≤ c) (v : Value) : RowTo (w.setCell ⟨B, c, none⟩ v) B n k R := by
  obtain ⟨⟨cur, hg, hs⟩, hr⟩ := h
  refine ⟨⟨cur.setIfInBounds c v, heap_setCell_same w B c cur 31 v hg, by simpa using hs⟩, fun i hi => ?_⟩
  have r := hr i hi
  have ne : ∀ d, d < 8 → (⟨B, c, none⟩ : Addr) ≠ ⟨B, i * 8 + d, none⟩ := fun d hd e => by have h := congrArg Addr.off e; dsimp only at h; omega
  have ne0 : (⟨B, c, none⟩ : Addr) ≠ ⟨B, i * 8, none⟩ := fun e => by have h := congrArg Addr.off e; dsimp only at h; omega
  exact ⟨(World.cell?_setCell_other _ _ _ _ ne0).trans r.c0, (World.cell?_setCell_other _ _ _ _ (ne 1 (by omega))).trans r.c1, (World.cell?_setCell_other _ _ _ _ (ne 2 (by omega))).trans r.c2, (World.cell?_setCell_other _ _ _ _ (ne 3 (by omega))).trans r.c3, (World.cell?_setCell_other _ _ _ _ (ne 4 (by omega))).trans r.c4, (World.cell?_setCell_other _ _ _ _ (ne 5 (by omega))).trans r.c5, (World.cell?_setCell_other _ _ _ _ (ne 6 (by omega))).trans r.c6, (World.cell?_setCell_other _ _ _ _ (ne 7 (by omega))).trans r.c7⟩

/-- A whole role. -/
def put8 (w : World) (B o : Nat) (r : Nums) : World :=
  (((((((w.setCell ⟨B, o, none⟩ (.string { data := #[] })).setCell ⟨B, o + 1, none⟩ (.int .i64 r.inst)).setCell ⟨B, o + 2, none⟩ (.int .i64 r.min)).setCell ⟨B, o + 3, none⟩ (.int .i64 r.gpu)).setCell ⟨B, o + 4, none⟩ (.int .i64 r.cpu)).setCell ⟨B, o + 5, none⟩ (.int .i64 r.mem)).setCell ⟨B, o + 6, none⟩ (.slice none 0 0)).setCell ⟨B, o + 7, none⟩ (.slice none 0 0)

theorem RowTo.next {w : World} {B n k : Nat} {R : Nat → Nums} (h : RowTo w B n k R) (hk : k < n) : RowTo (put8 w B (k * 8) (R k)) B n (k + 1) R := by
  have h0 := h.put (k * 8) (by omega) (.string { data := #[] })
  have h1 := h0.put (k * 8 + 1) (by omega) (.int .i64 (R k).inst)
  have h2 := h1.put (k * 8 + 2) (by omega) (.int .i64 (R k).min)
  have h3 := h2.put (k * 8 + 3) (by omega) (.int .i64 (R k).gpu)
  have h4 := h3.put (k * 8 + 4) (by omega) (.int .i64 (R k).cpu)
  have h5 := h4.put (k * 8 + 5) (by omega) (.int .i64 (R k).mem)
  have h6 := h5.put (k * 8 + 6) (by omega) (.slice none 0 0)
  have h7 := h6.put (k * 8 + 7) (by omega) (.slice none 0 0)
  refine ⟨h7.1, fun i hi => ?_⟩
  by_cases hik : i < k
  · exact h7.2 i hik
  · obtain rfl : i = k := by omega
    obtain ⟨v0, e0⟩ := h.cellOf (i * 8) (by omega)
    obtain ⟨v1, e1⟩ := h0.cellOf (i * 8 + 1) (by omega)
    obtain ⟨v2, e2⟩ := h1.cellOf (i * 8 + 2) (by omega)
    obtain ⟨v3, e3⟩ := h2.cellOf (i * 8 + 3) (by omega)
    obtain ⟨v4, e4⟩ := h3.cellOf (i * 8 + 4) (by omega)
    obtain ⟨v5, e5⟩ := h4.cellOf (i * 8 + 5) (by omega)
    obtain ⟨v6, e6⟩ := h5.cellOf (i * 8 + 6) (by omega)
    obtain ⟨v7, e7⟩ := h6.cellOf (i * 8 + 7) (by omega)
    have ne : ∀ c d : Nat, c ≠ d → (⟨B, c, none⟩ : Addr) ≠ ⟨B, d, none⟩ := fun c d hd e => hd (congrArg Addr.off e)
    have f0 := World.cell?_setCell_same _ _ (.string { data := #[] }) e0
    have f1 := World.cell?_setCell_same _ _ (.int .i64 (R i).inst) e1
    have f2 := World.cell?_setCell_same _ _ (.int .i64 (R i).min) e2
    have f3 := World.cell?_setCell_same _ _ (.int .i64 (R i).gpu) e3
    have f4 := World.cell?_setCell_same _ _ (.int .i64 (R i).cpu) e4
    have f5 := World.cell?_setCell_same _ _ (.int .i64 (R i).mem) e5
    have f6 := World.cell?_setCell_same _ _ (.slice none 0 0) e6
    have f7 := World.cell?_setCell_same _ _ (.slice none 0 0) e7
    unfold put8
    refine ⟨?_, ?_, ?_, ?_, ?_, ?_, ?_, f7⟩
    · repeat rw [World.cell?_setCell_other _ _ _ _ (ne _ _ (by omega))]
      exact f0
    · repeat rw [World.cell?_setCell_other _ _ _ _ (ne _ _ (by omega))]
      exact f1
    · repeat rw [World.cell?_setCell_other _ _ _ _ (ne _ _ (by omega))]
      exact f2
    · repeat rw [World.cell?_setCell_other _ _ _ _ (ne _ _ (by omega))]
      exact f3
    · repeat rw [World.cell?_setCell_other _ _ _ _ (ne _ _ (by omega))]
      exact f4
    · repeat rw [World.cell?_setCell_other _ _ _ _ (ne _ _ (by omega))]
      exact f5
    · repeat rw [World.cell?_setCell_other _ _ _ _ (ne _ _ (by omega))]
      exact f6

theorem below_put8 {B0 : Nat} {a w : World} {B o : Nat} {r : Nums} (h : Below B0 a w) (hB : B0 ≤ B) : Below B0 a (put8 w B o r) :=
  (((((((h.setCell hB _).setCell hB _).setCell hB _).setCell hB _).setCell hB _).setCell hB _).setCell hB _).setCell hB _

theorem RowTo.drew {w : World} {B n k : Nat} {R : Nat → Nums} (h : RowTo w B n k R) : RowTo w.drew B n k R :=
  ⟨h.1, fun i hi => (h.2 i hi).kept (Below.refl _ _).drew⟩

theorem jobn (w : World) (rb n : Nat) (R : Nat → Nums) (t : Int) (hr : ∀ i, i < n → RoleAt w rb i (R i)) :
    JobAt ((w.alloc (.cells #[.slice none 0 0, .slice none 0 0, .string { data := #[] }, .slice none 0 0, .string { data := #[] }, .string { data := #[] }, .bool false, .string { data := #[] }, .string { data := #[] }, .string { data := #[] }, .int .i64 t, .int .i64 0] 36)).alloc (.cells #[.string { data := #[] }, .slice (some ⟨rb, 0, none⟩) n n, .int .i64 0, .bool false, .string { data := #[] }, .string { data := #[] }, .int .i64 0, .pointer none, .int .i64 0, .bool false, .pointer none, .pointer (some ⟨w.heap.size, 0, none⟩)] 42)) (w.heap.size + 1) rb w.heap.size n n R t := by
  have b0 : Below w.heap.size w ((w.alloc (.cells #[.slice none 0 0, .slice none 0 0, .string { data := #[] }, .slice none 0 0, .string { data := #[] }, .string { data := #[] }, .bool false, .string { data := #[] }, .string { data := #[] }, .string { data := #[] }, .int .i64 t, .int .i64 0] 36)).alloc (.cells #[.string { data := #[] }, .slice (some ⟨rb, 0, none⟩) n n, .int .i64 0, .bool false, .string { data := #[] }, .string { data := #[] }, .int .i64 0, .pointer none, .int .i64 0, .bool false, .pointer none, .pointer (some ⟨w.heap.size, 0, none⟩)] 42)) := ((Below.refl _ _).alloc (Nat.le_refl _) _).alloc (by simp) _
  refine ⟨?_, ?_, ?_, fun i hi => (hr i hi).kept b0⟩
  · refine (World.cell?_alloc_at _ _ _ _ ?_).trans rfl
    simp
  · refine (World.cell?_alloc_at _ _ _ _ ?_).trans rfl
    simp
  · refine (World.cell?_alloc_past _ _ _ ?_).trans ((World.cell?_alloc_at _ _ _ _ ?_).trans rfl)
    · simp
    · simp

end Go.Proofs.Qxb6632259a
