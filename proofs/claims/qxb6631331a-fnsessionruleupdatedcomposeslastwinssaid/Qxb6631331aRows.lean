/-
  No cell of these rows narrows 'for every input' (looked for: loops, veiled, ifaces, maps, wideKeys, modest, calm, conditions, laid).
  DERIVED. THE GIVEN ROWS OF THIS SEAT. 2 by the template 'for every input the law returns true; each argument reads behind the call as it read before'; 0 by the template 'total and deterministic' (their statements: Qxb6631331aTotals.lean).
  GIVEN WITH THE SEED: the statements are not yours to turn. If you find one false, say at which input.
  Laid BY PROGRAM, IN A SANDBOX (cutbox-rows.mjs): the forced cells as the released guide's own fill.sh prints them over the translation 52deeaae7397d30e… (all of the seat's roots in one cut). By AI agents, Wed Nov 11 2026. No macro, syntax, notation, axiom, sorry.
-/
import Derived.Test.Qxb6631331aChecked
import GoSem.Claim
import GoSem.ClaimJoined
import GoSem.ClaimMapViews
import Derived.JoinedTies
import Derived.KernelRfl
namespace Go.Proofs.Qxb6631331a
/- THE CELL 'sum', in the pinned program and in every row, IS THE sha256 OF THE DUMP (.gsa) THAT Qxb6631331aProg.lean LOADS. Nothing in Lean hashes anything: it is a label: what it is worth is what the hold of that sum in a sandbox is worth. -/
noncomputable def Try.pinned : Pinned := { name := "qxb6631331a", sum := "52deeaae7397d30ea6d07c25791c607e7bac0c0dcb65a7051ab4b83f8b5a115d", checked := Try.checked }
namespace Rows
def none {H : Type} : Left H := { results := [], args := [] }

/-- 'zzlaws_npcf_b1.FnSessionRuleUpdatedComposesLastWins': WHATEVER THE INPUT: true; the input reads as it did. -/
def fnSessionRuleUpdatedComposesLastWinsSpec : ChangeSpec := { name := "fnSessionRuleUpdatedComposesLastWins", fn := fun _ => fun
  | [d1, d2, d3] => { results := [.lit (.bool true)], args := [d1, d2, d3] }
  | _ => none }
def fnSessionRuleUpdatedComposesLastWinsRow : OpenClaim := { program := "qxb6631331a", sum := "52deeaae7397d30ea6d07c25791c607e7bac0c0dcb65a7051ab4b83f8b5a115d", func := "example.com/moorline/moorline/zzlaws_npcf_b1.FnSessionRuleUpdatedComposesLastWins", spec := "fnSessionRuleUpdatedComposesLastWins", apart := false }
def FnSessionRuleUpdatedComposesLastWinsSaid : Prop := fnSessionRuleUpdatedComposesLastWinsRow.holds Try.pinned (OpenSpec.ofChange fnSessionRuleUpdatedComposesLastWinsSpec)

/-- ITS FALSE NEIGHBOUR: 'it returns false'. Refute it at one input. -/
def fnSessionRuleUpdatedComposesLastWinsWrong : ChangeSpec := { name := "fnSessionRuleUpdatedComposesLastWins", fn := fun _ => fun
  | [d1, d2, d3] => { results := [.lit (.bool false)], args := [d1, d2, d3] }
  | _ => none }
def FnSessionRuleUpdatedComposesLastWinsWrongFalsely : Prop := fnSessionRuleUpdatedComposesLastWinsRow.holds Try.pinned (OpenSpec.ofChange fnSessionRuleUpdatedComposesLastWinsWrong)

/-- 'zzlaws_npcf_b1.FnSessionRuleUpdatedEmptyChangeCopiesAndIsIdempotent': WHATEVER THE INPUT: true; the input reads as it did. -/
def fnSessionRuleUpdatedEmptyChangeCopiesAndIsIdempotentSpec : ChangeSpec := { name := "fnSessionRuleUpdatedEmptyChangeCopiesAndIsIdempotent", fn := fun _ => fun
  | [d1, d2] => { results := [.lit (.bool true)], args := [d1, d2] }
  | _ => none }
def fnSessionRuleUpdatedEmptyChangeCopiesAndIsIdempotentRow : OpenClaim := { program := "qxb6631331a", sum := "52deeaae7397d30ea6d07c25791c607e7bac0c0dcb65a7051ab4b83f8b5a115d", func := "example.com/moorline/moorline/zzlaws_npcf_b1.FnSessionRuleUpdatedEmptyChangeCopiesAndIsIdempotent", spec := "fnSessionRuleUpdatedEmptyChangeCopiesAndIsIdempotent", apart := false }
def FnSessionRuleUpdatedEmptyChangeCopiesAndIsIdempotentSaid : Prop := fnSessionRuleUpdatedEmptyChangeCopiesAndIsIdempotentRow.holds Try.pinned (OpenSpec.ofChange fnSessionRuleUpdatedEmptyChangeCopiesAndIsIdempotentSpec)

/-- ITS FALSE NEIGHBOUR: 'it returns false'. Refute it at one input. -/
def fnSessionRuleUpdatedEmptyChangeCopiesAndIsIdempotentWrong : ChangeSpec := { name := "fnSessionRuleUpdatedEmptyChangeCopiesAndIsIdempotent", fn := fun _ => fun
  | [d1, d2] => { results := [.lit (.bool false)], args := [d1, d2] }
  | _ => none }
def FnSessionRuleUpdatedEmptyChangeCopiesAndIsIdempotentWrongFalsely : Prop := fnSessionRuleUpdatedEmptyChangeCopiesAndIsIdempotentRow.holds Try.pinned (OpenSpec.ofChange fnSessionRuleUpdatedEmptyChangeCopiesAndIsIdempotentWrong)

end Rows
end Go.Proofs.Qxb6631331a
