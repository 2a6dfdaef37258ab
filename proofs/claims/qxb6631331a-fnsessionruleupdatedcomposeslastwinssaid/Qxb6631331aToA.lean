import Derived.Test.Qxb6631331aTo
import Derived.Deep.RegionHeld3
import Derived.Deep.DrawnRows
namespace Go.Proofs.Qxb6631331a
open Go.RowKit
attribute [local go_sem ↓] Go.wp_at_zero Go.wp_at_succ

set_option maxHeartbeats 1000000 in
theorem to_nn (b o : Nat) (w : World) (c0 : w.cell? ⟨b, o, none⟩ = some (.pointer none)) (c1 : w.cell? ⟨b, o + 1, none⟩ = some (.pointer none)) :
    Calls Try.prog 12 #[.pointer (some ⟨b, o, none⟩)] w fun e w' => ∃ q, e = .returned (.pointer (some q)) ∧ (IsRule w' (some q) (some ⟨none, none⟩) ∧ Own w' q) ∧ Below w.heap.size w w' := by
  have lb := blk c0
  obtain ⟨lb1, lb2, lb3, lb4⟩ := three lb
  go_enter Try.func12, Try.ntmps12
  go_wp2
  go_ret
  refine ⟨_, rfl, And.symm ⟨?below, Or.inr ⟨w.heap.size, 0, _, _, _, _, rfl, rfl, ?_, ?_, IsAmb.nil _, IsQs.nil _⟩, ?own⟩⟩
  case below => (repeat (first | exact Below.refl _ _ | refine Below.drew ?_ | refine Below.setCell ?_ (by simp) _ | refine Below.alloc ?_ (by simp <;> omega) _))
  case own => (repeat (first | exact own_new _ _ _ _ | refine own_drew ?_ | refine own_alloc ?_ _))
  all_goals (show World.cell? (World.alloc _ _) _ = _; (repeat (refine (World.cell?_alloc_past _ _ _ ?_).trans ?_; focus (first | (simp; done) | (simp; omega)))); refine (World.cell?_alloc_at _ _ _ _ ?_).trans ?_; (focus (simp; done)); rfl)

set_option maxHeartbeats 1000000 in
theorem to_nxx (b o : Nat) (bq oq : Nat) (w : World) (c0 : w.cell? ⟨b, o, none⟩ = some (.pointer none)) (c1 : w.cell? ⟨b, o + 1, none⟩ = some (.pointer (some ⟨bq, oq, none⟩))) (q0 : w.cell? ⟨bq, oq, none⟩ = some (.pointer none)) (q1 : w.cell? ⟨bq, oq + 1, none⟩ = some (.pointer none)) :
    Calls Try.prog 12 #[.pointer (some ⟨b, o, none⟩)] w fun e w' => ∃ q, e = .returned (.pointer (some q)) ∧ (IsRule w' (some q) (some ⟨none, some ⟨none, none⟩⟩) ∧ Own w' q) ∧ Below w.heap.size w w' := by
  have lb := blk c0
  obtain ⟨lb1, lb2, lb3, lb4⟩ := three lb
  have lq := blk q0
  obtain ⟨lq1, lq2, lq3, lq4⟩ := three lq
  go_enter Try.func12, Try.ntmps12
  go_wp2
  go_ret
  refine ⟨_, rfl, And.symm ⟨?below, Or.inr ⟨w.heap.size, 0, _, _, _, _, rfl, rfl, ?_, ?_, IsAmb.nil _, Or.inr ⟨w.heap.size + 1, 0, _, _, _, _, rfl, rfl, ?_, ?_, IsInt.nil _, IsArp.nil _⟩⟩, ?own⟩⟩
  case below => (repeat (first | exact Below.refl _ _ | refine Below.drew ?_ | refine Below.setCell ?_ (by simp) _ | refine Below.alloc ?_ (by simp <;> omega) _))
  case own => (repeat (first | exact own_new _ _ _ _ | refine own_drew ?_ | refine own_alloc ?_ _))
  all_goals (show World.cell? (World.alloc _ _) _ = _; (repeat (refine (World.cell?_alloc_past _ _ _ ?_).trans ?_; focus (first | (simp; done) | (simp; omega)))); refine (World.cell?_alloc_at _ _ _ _ ?_).trans ?_; (focus (simp; done)); rfl)

set_option maxHeartbeats 1000000 in
theorem to_nfx (b o : Nat) (bq oq : Nat) (bf of : Nat) (n : Int) (w : World) (c0 : w.cell? ⟨b, o, none⟩ = some (.pointer none)) (c1 : w.cell? ⟨b, o + 1, none⟩ = some (.pointer (some ⟨bq, oq, none⟩))) (q0 : w.cell? ⟨bq, oq, none⟩ = some (.pointer (some ⟨bf, of, none⟩))) (q1 : w.cell? ⟨bq, oq + 1, none⟩ = some (.pointer none)) (f0 : w.cell? ⟨bf, of, none⟩ = some (.int .i64 n)) :
    Calls Try.prog 12 #[.pointer (some ⟨b, o, none⟩)] w fun e w' => ∃ q, e = .returned (.pointer (some q)) ∧ (IsRule w' (some q) (some ⟨none, some ⟨some n, none⟩⟩) ∧ Own w' q) ∧ Below w.heap.size w w' := by
  have lb := blk c0
  obtain ⟨lb1, lb2, lb3, lb4⟩ := three lb
  have lq := blk q0
  obtain ⟨lq1, lq2, lq3, lq4⟩ := three lq
  have lf := blk f0
  obtain ⟨lf1, lf2, lf3, lf4⟩ := three lf
  go_enter Try.func12, Try.ntmps12
  go_wp2
  go_ret
  refine ⟨_, rfl, And.symm ⟨?below, Or.inr ⟨w.heap.size, 0, _, _, _, _, rfl, rfl, ?_, ?_, IsAmb.nil _, Or.inr ⟨w.heap.size + 1, 0, _, _, _, _, rfl, rfl, ?_, ?_, Or.inr ⟨w.heap.size + 1 + 1, 0, _, rfl, rfl, ?_⟩, IsArp.nil _⟩⟩, ?own⟩⟩
  case below => (repeat (first | exact Below.refl _ _ | refine Below.drew ?_ | refine Below.setCell ?_ (by simp) _ | refine Below.alloc ?_ (by simp <;> omega) _))
  case own => (repeat (first | exact own_new _ _ _ _ | refine own_drew ?_ | refine own_alloc ?_ _))
  all_goals (show World.cell? (World.alloc _ _) _ = _; (repeat (refine (World.cell?_alloc_past _ _ _ ?_).trans ?_; focus (first | (simp; done) | (simp; omega)))); refine (World.cell?_alloc_at _ _ _ _ ?_).trans ?_; (focus (simp; done)); rfl)

set_option maxHeartbeats 1000000 in
theorem to_an (b o : Nat) (ba oa : Nat) (u d : ByteArray) (w : World) (c0 : w.cell? ⟨b, o, none⟩ = some (.pointer (some ⟨ba, oa, none⟩))) (c1 : w.cell? ⟨b, o + 1, none⟩ = some (.pointer none)) (a0 : w.cell? ⟨ba, oa, none⟩ = some (.string u)) (a1 : w.cell? ⟨ba, oa + 1, none⟩ = some (.string d)) :
    Calls Try.prog 12 #[.pointer (some ⟨b, o, none⟩)] w fun e w' => ∃ q, e = .returned (.pointer (some q)) ∧ (IsRule w' (some q) (some ⟨some ⟨u, d⟩, none⟩) ∧ Own w' q) ∧ Below w.heap.size w w' := by
  have lb := blk c0
  obtain ⟨lb1, lb2, lb3, lb4⟩ := three lb
  have la := blk a0
  obtain ⟨la1, la2, la3, la4⟩ := three la
  go_enter Try.func12, Try.ntmps12
  go_wp2
  go_region_held3 (fun w' => w'.cell? ⟨b, o, none⟩ = some (.pointer (some ⟨ba, oa, none⟩)) ∧ w'.cell? ⟨ba, oa, none⟩ = some (.string u) ∧ w'.cell? ⟨ba, oa + 1, none⟩ = some (.string d)) ((refine keep3 ?_ c0 a0 a1; (repeat (first | exact Below.refl _ _ | refine Below.drew ?_ | refine Below.setCell ?_ (by simp) _ | refine Below.alloc ?_ (by simp <;> omega) _)))) (fail)
  go_wp2
  go_ret
  refine ⟨_, rfl, And.symm ⟨?below, Or.inr ⟨w.heap.size, 0, _, _, _, _, rfl, rfl, ?_, ?_, Or.inr ⟨w.heap.size + 1, 0, _, _, rfl, rfl, ?_, ?_⟩, IsQs.nil _⟩, ?own⟩⟩
  case below => (repeat (first | exact Below.refl _ _ | refine Below.drew ?_ | refine Below.setCell ?_ (by simp) _ | refine Below.alloc ?_ (by simp <;> omega) _))
  case own => (repeat (first | exact own_new _ _ _ _ | refine own_drew ?_ | refine own_alloc ?_ _))
  all_goals (show World.cell? (World.alloc _ _) _ = _; (repeat (refine (World.cell?_alloc_past _ _ _ ?_).trans ?_; focus (first | (simp; done) | (simp; omega)))); refine (World.cell?_alloc_at _ _ _ _ ?_).trans ?_; (focus (simp; done)); rfl)

end Go.Proofs.Qxb6631331a
