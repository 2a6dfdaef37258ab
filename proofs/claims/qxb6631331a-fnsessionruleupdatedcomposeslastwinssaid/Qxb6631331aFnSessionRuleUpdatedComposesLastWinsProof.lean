/- The statement out of the walks 'law3_walk' (Qxb6631331aLaw3) and 'zz5_any' (Qxb6631331aZz5). -/
import Derived.Test.Qxb6631331aRows
import Derived.Test.Qxb6631331aLaw3
import Derived.Test.Qxb6631331aZz5
import Derived.Test.Qxb6631331aOpen
import Derived.WalkKit
import Derived.ProofKit
import Derived.OpenShut
import Derived.ShutString
import Derived.ChangeOld
import Derived.Below
namespace Go.Proofs.Qxb6631331a.fnSessionRuleUpdatedComposesLastWins
open Go.ChangeShapes Go.WideShapes Go.ChangeAt Go.RowKit

theorem own : ownKnob Try.prog.godebug = none := by kernel_rfl
theorem laidOut : laidOutB Try.prog = true := by kernel_rfl

theorem law3_any (p pa pq pb ps : Option Addr) (x : Option Rule) (A : Option Amb) (Q : Option Qs) (B : Option Amb) (S : Option Qs) (w : World) (hp : IsRule w p x) (ha : IsAmb w pa A) (hq : IsQs w pq Q) (hb : IsAmb w pb B) (hs : IsQs w ps S) :
    Calls Try.prog 3 #[.pointer p, .agg #[.pointer pa, .pointer pq], .agg #[.pointer pb, .pointer ps]] w fun e w' => e = .returned (.bool true) ∧ Below w.heap.size w w' :=
  law3_walk p pa pq pb ps x A Q B S w hp ha hq hb hs fun w' b => zz5_any p pa pq pb ps x A Q B S w' (hp.kept b) (ha.kept b) (hq.kept b) (hb.kept b) (hs.kept b)

set_option maxRecDepth 100000 in
theorem lifted (os : Os) (started : os.Started) (H : Type) (enc : TypeId × Value → H) :
    ReturnsInHanded {} Try.checked os 3 .any (Rows.fnSessionRuleUpdatedComposesLastWinsSpec.pre6 enc Try.prog Try.f3 Rows.fnSessionRuleUpdatedComposesLastWinsRow.domain false) (Rows.fnSessionRuleUpdatedComposesLastWinsSpec.post enc Try.prog Try.f3 false true false false) := by
  refine returnsInHanded_of_change (C := Try.checked) own started (by kernel_rfl) Try.func3
    (ChangeSpec.witness6 (enc := enc) (C := Try.checked) false ⟨#[], #[.pointer none, .agg #[.pointer none, .pointer none], .agg #[.pointer none, .pointer none]], []⟩ 8 (by kernel_rfl) (by kernel_rfl) (by kernel_rfl) (by kernel_rfl)) ?_
  intro W base args ds gs before hval0 hW hcnd _
  have hval : ∀ (j : Nat) t v, Try.f3.params[j]? = some t → args[j]? = some v → Value.okWide Try.prog W .any base t v := hval0
  have hW' := hW
  obtain ⟨p, q, hA0, hV, rfl, hfz, hnd⟩ := hW
  have hA : DataW.TrodAll enc Try.prog W 0 (fun _ => true) true Try.f3.params.toList args.toList ds p := hA0
  rw [Try.params3] at hA hval
  obtain ⟨v0, vs0, d0, ds0, p0, q0, hargs, rfl, rfl, h0, r0⟩ := trodAll_cons hA
  obtain ⟨v1, vs1, d1, ds1, p1, q1, rfl, rfl, rfl, h1, r1⟩ := trodAll_cons r0
  obtain ⟨v2, vs2, d2, ds2, p2, q2, rfl, rfl, rfl, h2, r2⟩ := trodAll_cons r1
  obtain ⟨rfl, rfl, rfl⟩ := trodAll_nil r2
  obtain rfl : args = #[v0, v1, v2] := by cases args; simp_all
  obtain ⟨rfl, rfl⟩ := trodVars_none hV
  have lt0 : ∀ x ∈ p0, x.block < W.heap.size := by obtain ⟨m, hm⟩ := h0; exact DataW.trod_lt m _ _ _ hm
  have lt1 : ∀ x ∈ p1, x.block < W.heap.size := by obtain ⟨m, hm⟩ := h1; exact DataW.trod_lt m _ _ _ hm
  have lt2 : ∀ x ∈ p2, x.block < W.heap.size := by obtain ⟨m, hm⟩ := h2; exact DataW.trod_lt m _ _ _ hm
  obtain ⟨a0, x0, hv0, i0⟩ := arg_ptr (hval 0 22 v0 rfl rfl) h0
  obtain ⟨pa, pq, A, Q, hv1, ia, iq⟩ := arg_val (hval 1 26 v1 rfl rfl) h1
  obtain ⟨pb, ps, B, S, hv2, ib, is⟩ := arg_val (hval 2 26 v2 rfl rfl) h2
  clear hA0 hval0
  subst hv0 hv1 hv2
  refine (law3_any a0 pa pq pb ps x0 A Q B S W i0 ia iq ib is).mono fun e W' ⟨he, bel⟩ => ?_
  subst he
  exact ⟨_, rfl, _, _, _, [], _, [], hW', trodAll_mk1 (shut_bool Try.underlying4 _), (trodAll_cons_mk (Below.trod laidOut (by kernel_rfl) (of_decide_eq_true (by kernel_rfl)) h0 bel lt0) (trodAll_cons_mk (Below.trod laidOut (by kernel_rfl) (of_decide_eq_true (by kernel_rfl)) h1 bel lt1) (trodAll_cons_mk (Below.trod laidOut (by kernel_rfl) (of_decide_eq_true (by kernel_rfl)) h2 bel lt2) trodAll_mk0))), rfl, bel.frame _, fun h => by cases h⟩

theorem over : Rows.fnSessionRuleUpdatedComposesLastWinsRow.holds Try.pinned (OpenSpec.ofChange Rows.fnSessionRuleUpdatedComposesLastWinsSpec) :=
  OpenClaim.holds_of_wide 3 Try.f3 rfl rfl rfl rfl rfl rfl rfl ⟨rfl, rfl, rfl, rfl, rfl⟩ rfl rfl rfl rfl rfl (by kernel_rfl) Try.func3 (by kernel_rfl)
    (of_decide_eq_true (by kernel_rfl)) (by unfold Func.isWrapper; first | (rw [if_pos (by decide +kernel)]; kernel_rfl) | (rw [if_neg (by decide +kernel)]; exact ⟨rfl, rfl⟩))
    (fun os started H enc _ => lifted os started H enc)

/-- THE STATEMENT -/
theorem proved : Rows.FnSessionRuleUpdatedComposesLastWinsSaid :=
  over
#print axioms proved
end Go.Proofs.Qxb6631331a.fnSessionRuleUpdatedComposesLastWins
