/- The statement out of the walks 'exact_main' (Qxb6632259aExact), 'exact_long', 'exact_tasks' (Qxb6632259aExactOut). -/
import Derived.Test.Qxb6632259aRows
import Derived.Test.Qxb6632259aExact
import Derived.Test.Qxb6632259aExactOut
import Derived.Test.Qxb6632259aOpen
import Derived.WalkKit
import Derived.ProofKit
import Derived.OpenShut
import Derived.ShutString
import Derived.ChangeOld
import Derived.Below
namespace Go.Proofs.Qxb6632259a.fnTaskCoresExact
open Go.ChangeShapes Go.WideShapes Go.ChangeAt Go.RowKit

theorem own : ownKnob Try.prog.godebug = none := by kernel_rfl
theorem laidOut : laidOutB Try.prog = true := by kernel_rfl

theorem exact_any (ao : Option Addr) (n cap : Nat) (R : Nat → Nums) (t : Int) (w : World) (hm : n ≤ maxLen) (hin : Ins w ao n R) (hwf : ∀ i, i < n → -9223372036854775808 ≤ (R i).cpu ∧ (R i).cpu ≤ 9223372036854775807) :
    Calls Try.prog 3 #[.slice ao n cap, .int .i64 t] w fun e w' => e = .returned (.bool true) ∧ Below w.heap.size w w' := by
  by_cases h1 : n ≤ 16384
  · by_cases h2 : t ≤ 9223372036854775
    · exact exact_main ao n cap R t w h1 h2 hin hwf
    · exact exact_tasks ao n cap t w h1 (by omega)
  · exact exact_long ao n cap t w hm (by omega)

set_option maxRecDepth 100000 in
theorem lifted (os : Os) (started : os.Started) (H : Type) (enc : TypeId × Value → H) :
    ReturnsInHanded {} Try.checked os 3 .any (Rows.fnTaskCoresExactSpec.pre6 enc Try.prog Try.f3 Rows.fnTaskCoresExactRow.domain false) (Rows.fnTaskCoresExactSpec.post enc Try.prog Try.f3 false true false false) := by
  refine returnsInHanded_of_change (C := Try.checked) own started (by kernel_rfl) Try.func3
    (ChangeSpec.witness6 (enc := enc) (C := Try.checked) false ⟨#[], #[.slice none 0 0, .int .i64 0], []⟩ 8 (by kernel_rfl) (by kernel_rfl) (by kernel_rfl) (by kernel_rfl)) ?_
  intro W base args ds gs before hval0 hW hcnd _
  have hval : ∀ (j : Nat) t v, Try.f3.params[j]? = some t → args[j]? = some v → Value.okWide Try.prog W .any base t v := hval0
  have hW' := hW
  obtain ⟨p, q, hA0, hV, rfl, hfz, hnd⟩ := hW
  have hA : DataW.TrodAll enc Try.prog W 0 (fun _ => true) true Try.f3.params.toList args.toList ds p := hA0
  rw [Try.params3] at hA hval
  obtain ⟨v0, vs0, d0, ds0, p0, q0, hargs, rfl, rfl, h0, r0⟩ := trodAll_cons hA
  obtain ⟨v1, vs1, d1, ds1, p1, q1, rfl, rfl, rfl, h1, r1⟩ := trodAll_cons r0
  obtain ⟨rfl, rfl, rfl⟩ := trodAll_nil r1
  obtain rfl : args = #[v0, v1] := by cases args; simp_all
  obtain ⟨rfl, rfl⟩ := trodVars_none hV
  obtain ⟨a0, len0, cap0, rfl⟩ := okWide_slice Try.underlying22 (hval 0 22 v0 rfl rfl)
  have lt0 : ∀ x ∈ p0, x.block < W.heap.size := by obtain ⟨m, hm⟩ := h0; exact DataW.trod_lt m _ _ _ hm
  obtain ⟨R, hlen, hin, hwf⟩ : ∃ R : Nat → Nums, len0 ≤ maxLen ∧ Ins W a0 len0 R ∧ ∀ i, i < len0 → -9223372036854775808 ≤ (R i).cpu ∧ (R i).cpu ≤ 9223372036854775807 := by
    obtain ⟨fuel, hf⟩ := h0
    have hf' : DataW.trod enc Try.prog W 0 (fun _ => true) true fuel 22 [.slice a0 len0 cap0] = some (d0, p0) := by simpa [Value.cells] using hf
    obtain ⟨R, hin, hwf⟩ := open_ins hf'
    exact ⟨R, slice_len hf', hin, hwf⟩
  obtain ⟨a1, rfl, rfl, rfl, w1⟩ := open_int Try.underlying3 (hval 1 3 v1 rfl rfl) h1
  clear hA0 hval0
  refine (exact_any a0 len0 cap0 R a1 W hlen hin hwf).mono fun e W' ⟨he, bel⟩ => ?_
  subst he
  exact ⟨_, rfl, _, _, _, [], _, [], hW', trodAll_mk1 (shut_bool Try.underlying4 _), (trodAll_cons_mk (Below.trod laidOut (by kernel_rfl) (of_decide_eq_true (by kernel_rfl)) h0 bel lt0) (trodAll_cons_mk (shut_int Try.underlying3 w1) trodAll_mk0)), rfl, bel.frame _, fun h => by cases h⟩

theorem over : Rows.fnTaskCoresExactRow.holds Try.pinned (OpenSpec.ofChange Rows.fnTaskCoresExactSpec) :=
  OpenClaim.holds_of_wide 3 Try.f3 rfl rfl rfl rfl rfl rfl rfl ⟨rfl, rfl, rfl, rfl, rfl⟩ rfl rfl rfl rfl rfl (by kernel_rfl) Try.func3 (by kernel_rfl)
    (of_decide_eq_true (by kernel_rfl)) (by unfold Func.isWrapper; first | (rw [if_pos (by decide +kernel)]; kernel_rfl) | (rw [if_neg (by decide +kernel)]; exact ⟨rfl, rfl⟩))
    (fun os started H enc _ => lifted os started H enc)

/-- THE STATEMENT -/
theorem proved : Rows.FnTaskCoresExactSaid :=
  over
#print axioms proved
end Go.Proofs.Qxb6632259a.fnTaskCoresExact
