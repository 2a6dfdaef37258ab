import Derived.Test.Qxb6631331aToA
import Derived.Test.Qxb6631331aToB
import Derived.Test.Qxb6631331aToC
import Derived.Test.Qxb6631331aToD
namespace Go.Proofs.Qxb6631331a
open Go.RowKit

theorem to_nil (w : World) : Calls Try.prog 12 #[.pointer none] w fun e w' => e = .returned (.pointer none) ∧ w' = w := by
  go_enter Try.func12, Try.ntmps12
  go_wp2
  go_ret
  exact ⟨rfl, rfl⟩

theorem to_some (a : Addr) (r : Rule) (w : World) (h : IsRule w (some a) (some r)) :
    Calls Try.prog 12 #[.pointer (some a)] w fun e w' => ∃ q, e = .returned (.pointer (some q)) ∧ (IsRule w' (some q) (some r) ∧ Own w' q) ∧ Below w.heap.size w w' := by
  rcases h with ⟨h, _⟩ | ⟨b, o, A, Q, pa, pq, h1, h2, c0, c1, ha, hq⟩
  · simp at h
  · obtain rfl : a = ⟨b, o, none⟩ := by simpa using h1
    obtain rfl : r = ⟨A, Q⟩ := by simpa using h2
    rcases ha with ⟨rfl, rfl⟩ | ⟨ba, oa, u, d, rfl, rfl, a0, a1⟩ <;> rcases hq with ⟨rfl, rfl⟩ | ⟨bq, oq, f, s, pf, ps, rfl, rfl, q0, q1, hf, hs⟩
    · exact to_nn b o w c0 c1
    · rcases hf with ⟨rfl, rfl⟩ | ⟨bf, of, n, rfl, rfl, f0⟩ <;> rcases hs with ⟨rfl, rfl⟩ | ⟨br, or, l, c, v, rfl, rfl, r0, r1, r2⟩
      · exact to_nxx b o bq oq w c0 c1 q0 q1
      · exact to_nxr b o bq oq br or l c v w c0 c1 q0 q1 r0 r1 r2
      · exact to_nfx b o bq oq bf of n w c0 c1 q0 q1 f0
      · exact to_nfr b o bq oq bf of n br or l c v w c0 c1 q0 q1 f0 r0 r1 r2
    · exact to_an b o ba oa u d w c0 c1 a0 a1
    · rcases hf with ⟨rfl, rfl⟩ | ⟨bf, of, n, rfl, rfl, f0⟩ <;> rcases hs with ⟨rfl, rfl⟩ | ⟨br, or, l, c, v, rfl, rfl, r0, r1, r2⟩
      · exact to_axx b o ba oa u d bq oq w c0 c1 q0 q1 a0 a1
      · exact to_axr b o ba oa u d bq oq br or l c v w c0 c1 q0 q1 r0 r1 r2 a0 a1
      · exact to_afx b o ba oa u d bq oq bf of n w c0 c1 q0 q1 f0 a0 a1
      · exact to_afr b o ba oa u d bq oq bf of n br or l c v w c0 c1 q0 q1 f0 r0 r1 r2 a0 a1

theorem to_any (p : Option Addr) (r : Option Rule) (w : World) (h : IsRule w p r) :
    Calls Try.prog 12 #[.pointer p] w fun e w' => ∃ q, e = .returned (.pointer q) ∧ IsRule w' q r ∧ Below w.heap.size w w' := by
  rcases p with _ | a
  · rcases h with ⟨_, rfl⟩ | ⟨_, _, _, _, _, _, h, _⟩
    · exact (to_nil w).mono fun e w' ⟨he, hw⟩ => ⟨none, he, IsRule.nil _, hw ▸ Below.refl _ _⟩
    · simp at h
  · rcases r with _ | r
    · rcases h with ⟨h, _⟩ | ⟨_, _, _, _, _, _, _, h, _⟩ <;> simp at h
    · exact (to_some a r w h).mono fun e w' ⟨q, he, ⟨hq, _⟩, hb⟩ => ⟨some q, he, hq, hb⟩

end Go.Proofs.Qxb6631331a
