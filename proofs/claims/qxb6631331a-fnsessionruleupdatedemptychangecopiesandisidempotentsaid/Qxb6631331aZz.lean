import Derived.Test.Qxb6631331aUpd
import Derived.Deep.DeepCutAuto
namespace Go.Proofs.Qxb6631331a
open Go.RowKit

set_option maxHeartbeats 2000000 in
set_option maxRecDepth 100000 in
theorem zz15_any (p pa pq : Option Addr) (x : Option Rule) (A : Option Amb) (Q : Option Qs) (w : World) (hp : IsRule w p x) (ha : IsAmb w pa A) (hq : IsQs w pq Q) :
    Calls Try.prog 15 #[.pointer p, .agg #[.pointer pa, .pointer pq]] w fun e w' => (∃ b : Bool, e = .returned (.bool b)) ∧ Below w.heap.size w w' := by
  go_enter Try.func15, Try.ntmps15
  go_upto_if 7 with fail
  go_cut [5] (fun s w' => ∃ z : Int, s = .int .i64 z ∧ 0 ≤ z ∧ z ≤ 1048576 ∧ w' = w.alloc (.cells #[.pointer pa, .pointer pq] 26))
  case first =>
    as_aux_lemma =>
      rcases hp with ⟨rfl, rfl⟩ | ⟨b, o, a, q, pra, prq, rfl, rfl, c0, c1, hra, hrq⟩
      · go_wp2
        go_meet
        case rel => exact ⟨0, rfl, by omega, by omega, rfl⟩
      · have lb := blk c0
        go_upto_if 12 with fail
        go_cut [5] (fun s w' => ∃ z : Int, s = .int .i64 z ∧ 0 ≤ z ∧ z ≤ 1048576 ∧ w' = w.alloc (.cells #[.pointer pa, .pointer pq] 26))
        case first =>
          as_aux_lemma =>
            rcases hra with ⟨rfl, rfl⟩ | ⟨ba, oa, u, d, rfl, rfl, a0, a1⟩
            · go_wp2
              go_meet
              case rel => exact ⟨0, rfl, by omega, by omega, rfl⟩
            · as_aux_lemma =>
                have la := blk a0
                go_wp2
                all_goals first
                  | (go_ret; exact ⟨⟨_, rfl⟩, belowA _ _⟩)
                  | (go_meet; exact ⟨_, rfl, by omega, by omega, rfl⟩)
        case rest =>
          as_aux_lemma =>
            obtain ⟨z, rfl, hz0, hz1, rfl⟩ := hcut
            rcases hrq with ⟨rfl, rfl⟩ | ⟨bq, oq, f, r, pf, pr, rfl, rfl, q0, q1, hf, hr⟩
            · go_wp2
              go_meet
              case rel => exact ⟨_, rfl, by omega, by omega, rfl⟩
            · have lq := blk q0
              rcases hr with ⟨rfl, rfl⟩ | ⟨br, or, l, c, v, rfl, rfl, r0, r1, r2⟩
              · go_wp2
                go_meet
                case rel => exact ⟨_, rfl, by omega, by omega, rfl⟩
              · as_aux_lemma =>
                  have lr := blk r0
                  go_wp2
                  all_goals first
                    | (go_ret; exact ⟨⟨_, rfl⟩, belowA _ _⟩)
                    | (go_meet; exact ⟨_, rfl, by omega, by omega, rfl⟩)
  case rest =>
    as_aux_lemma =>
      obtain ⟨z, rfl, hz0, hz1, rfl⟩ := hcut
      go_upto_if 124 with fail
      go_cut [5] (fun s w' => ∃ z : Int, s = .int .i64 z ∧ 0 ≤ z ∧ z ≤ 1048576 ∧ w' = w.alloc (.cells #[.pointer pa, .pointer pq] 26))
      case first =>
        as_aux_lemma =>
          rcases ha with ⟨rfl, rfl⟩ | ⟨ba, oa, u, d, rfl, rfl, a0, a1⟩
          · go_wp2
            go_meet
            case rel => exact ⟨_, rfl, by omega, by omega, rfl⟩
          · as_aux_lemma =>
              have la := blk a0
              go_wp2
              all_goals first
                | (go_ret; exact ⟨⟨_, rfl⟩, belowA _ _⟩)
                | (go_meet; exact ⟨_, rfl, by omega, by omega, rfl⟩)
      case rest =>
        as_aux_lemma =>
          obtain ⟨z, rfl, hz0, hz1, rfl⟩ := hcut
          rcases hq with ⟨rfl, rfl⟩ | ⟨bq, oq, f, r, pf, pr, rfl, rfl, q0, q1, hf, hr⟩
          · go_wp2
            go_ret
            exact ⟨⟨_, rfl⟩, belowA _ _⟩
          · have lq := blk q0
            rcases hr with ⟨rfl, rfl⟩ | ⟨br, or, l, c, v, rfl, rfl, r0, r1, r2⟩
            · go_wp2
              go_ret
              exact ⟨⟨_, rfl⟩, belowA _ _⟩
            · as_aux_lemma =>
                have lr := blk r0
                go_wp2
                all_goals (go_ret; exact ⟨⟨_, rfl⟩, belowA _ _⟩)

end Go.Proofs.Qxb6631331a
