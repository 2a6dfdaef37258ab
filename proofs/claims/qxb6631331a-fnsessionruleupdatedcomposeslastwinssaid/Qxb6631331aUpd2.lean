import Derived.Test.Qxb6631331aUpd
namespace Go.Proofs.Qxb6631331a
open Go.RowKit

theorem IsInt.or {w : World} {p p' : Option Addr} {x x' : Option Int} (h : IsInt w p x) (h' : IsInt w p' x') : IsInt w (p.or p') (x.or x') := by
  rcases h.cases with ⟨rfl, rfl⟩ | ⟨a, y, rfl, rfl⟩
  · exact h'
  · exact h
theorem IsAmb.or {w : World} {p p' : Option Addr} {x x' : Option Amb} (h : IsAmb w p x) (h' : IsAmb w p' x') : IsAmb w (p.or p') (x.or x') := by
  rcases h.cases with ⟨rfl, rfl⟩ | ⟨a, y, rfl, rfl⟩
  · exact h'
  · exact h
theorem IsArp.or {w : World} {p p' : Option Addr} {x x' : Option Rarp} (h : IsArp w p x) (h' : IsArp w p' x') : IsArp w (p.or p') (x.or x') := by
  rcases h.cases with ⟨rfl, rfl⟩ | ⟨a, y, rfl, rfl⟩
  · exact h'
  · exact h

section
variable (q : Option Addr) (c : Rule) (b o : Nat) (a : Option Amb) (pa : Option Addr) (w : World)

set_option maxHeartbeats 1000000 in
/-- A rule without a default QoS. -/
theorem updated_bare (hq : IsRule w q (some c)) (r0 : w.cell? ⟨b, o, none⟩ = some (.pointer pa)) (r1 : w.cell? ⟨b, o + 1, none⟩ = some (.pointer none)) (ha : IsAmb w pa a) :
    Calls Try.prog 13 #[.pointer (some ⟨b, o, none⟩), .pointer q] w fun e w' => e = .returned (.pointer (some ⟨w.heap.size, 0, none⟩)) ∧ (IsRule w' (some ⟨w.heap.size, 0, none⟩) (some (upd (some ⟨a, none⟩) c)) ∧ Own w' ⟨w.heap.size, 0, none⟩) ∧ Below w.heap.size w w' := by
  rcases hq with ⟨_, h⟩ | ⟨bc, oc, ca, cq, pca, pcq, rfl, h, c0, c1, hca, hcq⟩
  · simp at h
  · obtain rfl : c = ⟨ca, cq⟩ := by simpa using h
    clear h
    have lc := blk c0
    have lr := blk r0
    have HA : Hid _ := hca.or ha
    rcases hcq with ⟨rfl, rfl⟩ | ⟨bq, oq, f, r, pf, pr, rfl, rfl, q0, q1, hf, hr⟩
    · rcases hca.cases with ⟨rfl, rfl⟩ | ⟨ac, ay, rfl, rfl⟩
      all_goals
        go_enter Try.func13, Try.ntmps13
        go_wp2
        go_ret
        exact ⟨rfl, end1 46 HA.out (IsQs.nil _)⟩
    · have lq := blk q0
      rcases hca.cases with ⟨rfl, rfl⟩ | ⟨ac, ay, rfl, rfl⟩ <;> rcases hf.cases with ⟨rfl, rfl⟩ | ⟨fc, fy, rfl, rfl⟩ <;> rcases hr.cases with ⟨rfl, rfl⟩ | ⟨rc, ry, rfl, rfl⟩
      all_goals
        go_enter Try.func13, Try.ntmps13
        go_wp2
        go_ret
        exact ⟨rfl, end2 46 56 HA.out hf hr⟩

set_option maxHeartbeats 1000000 in
/-- A rule with one. -/
theorem updated_full (bq' oq' : Nat) (f' : Option Int) (s' : Option Rarp) (pf' ps' : Option Addr) (hq : IsRule w q (some c)) (r0 : w.cell? ⟨b, o, none⟩ = some (.pointer pa)) (r1 : w.cell? ⟨b, o + 1, none⟩ = some (.pointer (some ⟨bq', oq', none⟩))) (ha : IsAmb w pa a)
    (k0 : w.cell? ⟨bq', oq', none⟩ = some (.pointer pf')) (k1 : w.cell? ⟨bq', oq' + 1, none⟩ = some (.pointer ps')) (hf' : IsInt w pf' f') (hs' : IsArp w ps' s') :
    Calls Try.prog 13 #[.pointer (some ⟨b, o, none⟩), .pointer q] w fun e w' => e = .returned (.pointer (some ⟨w.heap.size, 0, none⟩)) ∧ (IsRule w' (some ⟨w.heap.size, 0, none⟩) (some (upd (some ⟨a, some ⟨f', s'⟩⟩) c)) ∧ Own w' ⟨w.heap.size, 0, none⟩) ∧ Below w.heap.size w w' := by
  rcases hq with ⟨_, h⟩ | ⟨bc, oc, ca, cq, pca, pcq, rfl, h, c0, c1, hca, hcq⟩
  · simp at h
  · obtain rfl : c = ⟨ca, cq⟩ := by simpa using h
    clear h
    have lc := blk c0
    have lr := blk r0
    have lk := blk k0
    have HA : Hid _ := hca.or ha
    have HQ : Hid (IsQs w (some ⟨bq', oq', none⟩) (some ⟨f', s'⟩)) := Or.inr ⟨_, _, _, _, _, _, rfl, rfl, k0, k1, hf', hs'⟩
    rcases hcq with ⟨rfl, rfl⟩ | ⟨bq, oq, f, r, pf, pr, rfl, rfl, q0, q1, hf, hr⟩
    · rcases hca.cases with ⟨rfl, rfl⟩ | ⟨ac, ay, rfl, rfl⟩
      all_goals
        go_enter Try.func13, Try.ntmps13
        go_wp2
        go_ret
        exact ⟨rfl, end1 46 HA.out HQ.out⟩
    · have lq := blk q0
      have HF : Hid _ := hf.or hf'
      have HR : Hid _ := hr.or hs'
      rcases hca.cases with ⟨rfl, rfl⟩ | ⟨ac, ay, rfl, rfl⟩ <;> rcases hf.cases with ⟨rfl, rfl⟩ | ⟨fc, fy, rfl, rfl⟩ <;> rcases hr.cases with ⟨rfl, rfl⟩ | ⟨rc, ry, rfl, rfl⟩
      all_goals
        go_enter Try.func13, Try.ntmps13
        go_wp2
        go_ret
        exact ⟨rfl, end2 46 56 HA.out HF.out HR.out⟩
end

theorem updated_any (p q : Option Addr) (r : Option Rule) (c : Rule) (w : World) (hp : IsRule w p r) (hq : IsRule w q (some c)) :
    Calls Try.prog 13 #[.pointer p, .pointer q] w fun e w' => e = .returned (.pointer (some ⟨w.heap.size, 0, none⟩)) ∧ (IsRule w' (some ⟨w.heap.size, 0, none⟩) (some (upd r c)) ∧ Own w' ⟨w.heap.size, 0, none⟩) ∧ Below w.heap.size w w' := by
  rcases hp with ⟨rfl, rfl⟩ | ⟨b, o, a, k, pa, pk, rfl, rfl, r0, r1, ha, hk⟩
  · exact updated_nil q c w hq
  · rcases hk with ⟨rfl, rfl⟩ | ⟨b', o', f, s, pf, ps, rfl, rfl, k0, k1, hf, hs⟩
    · exact updated_bare q c b o a pa w hq r0 r1 ha
    · exact updated_full q c b o a pa w b' o' f s pf ps hq r0 r1 ha k0 k1 hf hs

end Go.Proofs.Qxb6631331a
