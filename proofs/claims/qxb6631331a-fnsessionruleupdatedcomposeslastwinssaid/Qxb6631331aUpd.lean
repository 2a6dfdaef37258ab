import Derived.Test.Qxb6631331aMem
import Derived.WalkSpells
import Derived.WalkSmall
import Derived.BigQuiet
namespace Go.Proofs.Qxb6631331a
open Go.RowKit

theorem blk {w : World} {b o : Nat} {v : Value} (h : w.cell? ⟨b, o, none⟩ = some v) : b < w.heap.size := World.block_lt_of_cell? w _ h

theorem IsInt.cases {w : World} {p : Option Addr} {x : Option Int} (h : IsInt w p x) : (p = none ∧ x = none) ∨ ∃ a y, p = some a ∧ x = some y := by
  rcases h with h | ⟨b, o, n, h1, h2, _⟩
  · exact Or.inl h
  · exact Or.inr ⟨_, _, h1, h2⟩
theorem IsAmb.cases {w : World} {p : Option Addr} {x : Option Amb} (h : IsAmb w p x) : (p = none ∧ x = none) ∨ ∃ a y, p = some a ∧ x = some y := by
  rcases h with h | ⟨b, o, u, d, h1, h2, _⟩
  · exact Or.inl h
  · exact Or.inr ⟨_, _, h1, h2⟩
theorem IsArp.cases {w : World} {p : Option Addr} {x : Option Rarp} (h : IsArp w p x) : (p = none ∧ x = none) ∨ ∃ a y, p = some a ∧ x = some y := by
  rcases h with h | ⟨b, o, n, c, v, h1, h2, _⟩
  · exact Or.inl h
  · exact Or.inr ⟨_, _, h1, h2⟩

/-- A block of the call's own, as it was laid. -/
def Own (w : World) (a : Addr) : Prop := ∃ c t, w.heap[a.block]? = some (.cells c t (0, 0))
theorem own_drew {w : World} {a : Addr} (h : Own w a) : Own w.drew a := h
theorem own_alloc {w : World} {a : Addr} (h : Own w a) (o : Obj) : Own (w.alloc o) a := by
  obtain ⟨c, t, h⟩ := h
  exact ⟨c, t, (Below.heap_alloc w o _ (lt_of_block h)).trans h⟩
theorem own_new (w : World) (c : Array Value) (t : TypeId) (o : Nat) : Own (w.alloc (.cells c t)) ⟨w.heap.size, o, none⟩ := ⟨c, t, heap_alloc_new w _⟩
theorem Own.kept {w w' : World} {a : Addr} (h : Own w a) (hb : Below w.heap.size w w') : Own w' a := by
  obtain ⟨c, t, h⟩ := h
  exact ⟨c, t, (hb.block _ (lt_of_block h)).trans h⟩

theorem belowA (w : World) (o : Obj) : Below w.heap.size w (w.alloc o) := (Below.refl _ _).alloc (Nat.le_refl _) o
theorem belowAA (w : World) (o o' : Obj) : Below w.heap.size w ((w.alloc o).alloc o') := (belowA w o).alloc (by simp) o'

theorem end1 {w : World} {a q : Option Addr} {A : Option Amb} {Q : Option Qs} (t : TypeId) (ha : IsAmb w a A) (hq : IsQs w q Q) :
    (IsRule (w.alloc (.cells #[.pointer a, .pointer q] t)) (some ⟨w.heap.size, 0, none⟩) (some ⟨A, Q⟩) ∧ Own (w.alloc (.cells #[.pointer a, .pointer q] t)) ⟨w.heap.size, 0, none⟩) ∧ Below w.heap.size w (w.alloc (.cells #[.pointer a, .pointer q] t)) := by
  refine ⟨⟨Or.inr ⟨w.heap.size, 0, A, Q, a, q, rfl, rfl, ?_, ?_, ha.kept (belowA _ _), hq.kept (belowA _ _)⟩, own_new _ _ _ _⟩, belowA _ _⟩
  · rw [World.cell?_alloc_at _ _ _ _ rfl]; rfl
  · rw [World.cell?_alloc_at _ _ _ _ rfl]; rfl

theorem end2 {w : World} {a f r : Option Addr} {A : Option Amb} {F : Option Int} {R : Option Rarp} (t t' : TypeId) (ha : IsAmb w a A) (hf : IsInt w f F) (hr : IsArp w r R) :
    (IsRule ((w.alloc (.cells #[.pointer a, .pointer (some ⟨w.heap.size + 1, 0, none⟩)] t)).alloc (.cells #[.pointer f, .pointer r] t')) (some ⟨w.heap.size, 0, none⟩) (some ⟨A, some ⟨F, R⟩⟩) ∧ Own ((w.alloc (.cells #[.pointer a, .pointer (some ⟨w.heap.size + 1, 0, none⟩)] t)).alloc (.cells #[.pointer f, .pointer r] t')) ⟨w.heap.size, 0, none⟩) ∧
    Below w.heap.size w ((w.alloc (.cells #[.pointer a, .pointer (some ⟨w.heap.size + 1, 0, none⟩)] t)).alloc (.cells #[.pointer f, .pointer r] t')) := by
  refine ⟨⟨Or.inr ⟨w.heap.size, 0, A, some ⟨F, R⟩, a, _, rfl, rfl, ?_, ?_, ha.kept (belowAA _ _ _), Or.inr ⟨w.heap.size + 1, 0, F, R, f, r, rfl, rfl, ?_, ?_, hf.kept (belowAA _ _ _), hr.kept (belowAA _ _ _)⟩⟩, own_alloc (own_new _ _ _ _) _⟩, belowAA _ _ _⟩
  · rw [World.cell?_alloc_past _ _ _ (by simp), World.cell?_alloc_at _ _ _ _ rfl]; rfl
  · rw [World.cell?_alloc_past _ _ _ (by simp), World.cell?_alloc_at _ _ _ _ rfl]; rfl
  · rw [World.cell?_alloc_at _ _ _ _ (by simp)]; rfl
  · rw [World.cell?_alloc_at _ _ _ _ (by simp)]; rfl

set_option maxHeartbeats 1000000 in
theorem updated_nil (q : Option Addr) (c : Rule) (w : World) (hq : IsRule w q (some c)) :
    Calls Try.prog 13 #[.pointer none, .pointer q] w fun e w' => e = .returned (.pointer (some ⟨w.heap.size, 0, none⟩)) ∧ (IsRule w' (some ⟨w.heap.size, 0, none⟩) (some (upd none c)) ∧ Own w' ⟨w.heap.size, 0, none⟩) ∧ Below w.heap.size w w' := by
  rcases hq with ⟨_, h⟩ | ⟨bc, oc, ca, cq, pca, pcq, rfl, h, c0, c1, hca, hcq⟩
  · simp at h
  · obtain rfl : c = ⟨ca, cq⟩ := by simpa using h
    clear h
    have lc := blk c0
    rcases hcq with ⟨rfl, rfl⟩ | ⟨bq, oq, f, r, pf, pr, rfl, rfl, q0, q1, hf, hr⟩
    · rcases hca.cases with ⟨rfl, rfl⟩ | ⟨ac, ay, rfl, rfl⟩
      all_goals
        go_enter Try.func13, Try.ntmps13
        go_wp2
        go_ret
        exact ⟨rfl, end1 46 hca (IsQs.nil _)⟩
    · have lq := blk q0
      rcases hca.cases with ⟨rfl, rfl⟩ | ⟨ac, ay, rfl, rfl⟩ <;> rcases hf.cases with ⟨rfl, rfl⟩ | ⟨fc, fy, rfl, rfl⟩ <;> rcases hr.cases with ⟨rfl, rfl⟩ | ⟨rc, ry, rfl, rfl⟩
      all_goals
        go_enter Try.func13, Try.ntmps13
        go_wp2
        go_ret
        exact ⟨rfl, end2 46 56 hca hf hr⟩

end Go.Proofs.Qxb6631331a
