/-
  No cell of these rows narrows 'for every input' (looked for: loops, veiled, ifaces, maps, wideKeys, modest, calm, conditions, laid).
  DERIVED. THE GIVEN ROWS OF THIS SEAT. 2 by the template 'for every input the law returns true; each argument reads behind the call as it read before'; 0 by the template 'total and deterministic' (their statements: Qxb6632259aTotals.lean).
  GIVEN WITH THE SEED: the statements are not yours to turn. If you find one false, say at which input.
  Laid BY PROGRAM, IN A SANDBOX (cutbox-rows.mjs): the forced cells as the released guide's own fill.sh prints them over the translation fefe838aa6624ba9… (all of the seat's roots in one cut). By AI agents, Wed Nov 11 2026. No macro, syntax, notation, axiom, sorry.
-/
import Derived.Test.Qxb6632259aChecked
import GoSem.Claim
import GoSem.ClaimJoined
import GoSem.ClaimMapViews
import Derived.JoinedTies
import Derived.KernelRfl
namespace Go.Proofs.Qxb6632259a
/- THE CELL 'sum', in the pinned program and in every row, IS THE sha256 OF THE DUMP (.gsa) THAT Qxb6632259aProg.lean LOADS. Nothing in Lean hashes anything: it is a label: what it is worth is what the hold of that sum in a sandbox is worth. -/
noncomputable def Try.pinned : Pinned := { name := "qxb6632259a", sum := "fefe838aa6624ba950d6461c612c748adadb63099d09e995383482b1b0c5ce1e", checked := Try.checked }
namespace Rows
def none {H : Type} : Left H := { results := [], args := [] }

/-- 'zzlaws_jobfile_b1.FnTaskCoresExact': WHATEVER THE INPUT: true; the input reads as it did. -/
def fnTaskCoresExactSpec : ChangeSpec := { name := "fnTaskCoresExact", fn := fun _ => fun
  | [d1, d2] => { results := [.lit (.bool true)], args := [d1, d2] }
  | _ => none }
def fnTaskCoresExactRow : OpenClaim := { program := "qxb6632259a", sum := "fefe838aa6624ba950d6461c612c748adadb63099d09e995383482b1b0c5ce1e", func := "example.com/tesserae/tesserae/zzlaws_jobfile_b1.FnTaskCoresExact", spec := "fnTaskCoresExact", apart := false }
def FnTaskCoresExactSaid : Prop := fnTaskCoresExactRow.holds Try.pinned (OpenSpec.ofChange fnTaskCoresExactSpec)

/-- ITS FALSE NEIGHBOUR: 'it returns false'. Refute it at one input. -/
def fnTaskCoresExactWrong : ChangeSpec := { name := "fnTaskCoresExact", fn := fun _ => fun
  | [d1, d2] => { results := [.lit (.bool false)], args := [d1, d2] }
  | _ => none }
def FnTaskCoresExactWrongFalsely : Prop := fnTaskCoresExactRow.holds Try.pinned (OpenSpec.ofChange fnTaskCoresExactWrong)

/-- 'zzlaws_jobfile_b1.FnTaskCoresRoundTripTaskCounts': WHATEVER THE INPUT: true; the input reads as it did. -/
def fnTaskCoresRoundTripTaskCountsSpec : ChangeSpec := { name := "fnTaskCoresRoundTripTaskCounts", fn := fun _ => fun
  | [d1, d2, d3, d4] => { results := [.lit (.bool true)], args := [d1, d2, d3, d4] }
  | _ => none }
def fnTaskCoresRoundTripTaskCountsRow : OpenClaim := { program := "qxb6632259a", sum := "fefe838aa6624ba950d6461c612c748adadb63099d09e995383482b1b0c5ce1e", func := "example.com/tesserae/tesserae/zzlaws_jobfile_b1.FnTaskCoresRoundTripTaskCounts", spec := "fnTaskCoresRoundTripTaskCounts", apart := false }
def FnTaskCoresRoundTripTaskCountsSaid : Prop := fnTaskCoresRoundTripTaskCountsRow.holds Try.pinned (OpenSpec.ofChange fnTaskCoresRoundTripTaskCountsSpec)

/-- ITS FALSE NEIGHBOUR: 'it returns false'. Refute it at one input. -/
def fnTaskCoresRoundTripTaskCountsWrong : ChangeSpec := { name := "fnTaskCoresRoundTripTaskCounts", fn := fun _ => fun
  | [d1, d2, d3, d4] => { results := [.lit (.bool false)], args := [d1, d2, d3, d4] }
  | _ => none }
def FnTaskCoresRoundTripTaskCountsWrongFalsely : Prop := fnTaskCoresRoundTripTaskCountsRow.holds Try.pinned (OpenSpec.ofChange fnTaskCoresRoundTripTaskCountsWrong)

end Rows
end Go.Proofs.Qxb6632259a
