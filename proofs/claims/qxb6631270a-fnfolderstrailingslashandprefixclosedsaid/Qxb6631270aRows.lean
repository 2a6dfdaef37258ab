/-
  No cell of these rows narrows 'for every input' (looked for: loops, veiled, ifaces, maps, wideKeys, modest, calm, conditions, laid).
  DERIVED. THE GIVEN ROWS OF THIS SEAT. 2 by the template 'for every input the law returns true; each argument reads behind the call as it read before'; 0 by the template 'total and deterministic' (their statements: Qxb6631270aTotals.lean).
  GIVEN WITH THE SEED: the statements are not yours to turn. If you find one false, say at which input.
  Laid BY PROGRAM, IN A SANDBOX (cutbox-rows.mjs): the forced cells as the released guide's own fill.sh prints them over the translation c106da0ce3ec8f96… (all of the seat's roots in one cut). By AI agents, Wed Nov 11 2026. No macro, syntax, notation, axiom, sorry.
-/
import Derived.Test.Qxb6631270aChecked
import GoSem.Claim
import GoSem.ClaimJoined
import GoSem.ClaimMapViews
import Derived.JoinedTies
import Derived.KernelRfl
namespace Go.Proofs.Qxb6631270a
/- THE CELL 'sum', in the pinned program and in every row, IS THE sha256 OF THE DUMP (.gsa) THAT Qxb6631270aProg.lean LOADS. Nothing in Lean hashes anything: it is a label: what it is worth is what the hold of that sum in a sandbox is worth. -/
noncomputable def Try.pinned : Pinned := { name := "qxb6631270a", sum := "c106da0ce3ec8f967674d972423c81baa6a9caef181d202f1a6581ca31480c56", checked := Try.checked }
namespace Rows
def none {H : Type} : Left H := { results := [], args := [] }

/-- 'zzlaws_storage_b1.FnFoldersSplitAtSlash': WHATEVER THE INPUT: true; the input reads as it did. -/
def fnFoldersSplitAtSlashSpec : ChangeSpec := { name := "fnFoldersSplitAtSlash", fn := fun _ => fun
  | [d1, d2] => { results := [.lit (.bool true)], args := [d1, d2] }
  | _ => none }
def fnFoldersSplitAtSlashRow : OpenClaim := { program := "qxb6631270a", sum := "c106da0ce3ec8f967674d972423c81baa6a9caef181d202f1a6581ca31480c56", func := "example.com/stowage/stowage/zzlaws_storage_b1.FnFoldersSplitAtSlash", spec := "fnFoldersSplitAtSlash", apart := false }
def FnFoldersSplitAtSlashSaid : Prop := fnFoldersSplitAtSlashRow.holds Try.pinned (OpenSpec.ofChange fnFoldersSplitAtSlashSpec)

/-- ITS FALSE NEIGHBOUR: 'it returns false'. Refute it at one input. -/
def fnFoldersSplitAtSlashWrong : ChangeSpec := { name := "fnFoldersSplitAtSlash", fn := fun _ => fun
  | [d1, d2] => { results := [.lit (.bool false)], args := [d1, d2] }
  | _ => none }
def FnFoldersSplitAtSlashWrongFalsely : Prop := fnFoldersSplitAtSlashRow.holds Try.pinned (OpenSpec.ofChange fnFoldersSplitAtSlashWrong)

/-- 'zzlaws_storage_b1.FnFoldersTrailingSlashAndPrefixClosed': WHATEVER THE INPUT: true; the input reads as it did. -/
def fnFoldersTrailingSlashAndPrefixClosedSpec : ChangeSpec := { name := "fnFoldersTrailingSlashAndPrefixClosed", fn := fun _ => fun
  | [d] => { results := [.lit (.bool true)], args := [d] }
  | _ => none }
def fnFoldersTrailingSlashAndPrefixClosedRow : OpenClaim := { program := "qxb6631270a", sum := "c106da0ce3ec8f967674d972423c81baa6a9caef181d202f1a6581ca31480c56", func := "example.com/stowage/stowage/zzlaws_storage_b1.FnFoldersTrailingSlashAndPrefixClosed", spec := "fnFoldersTrailingSlashAndPrefixClosed", apart := false }
def FnFoldersTrailingSlashAndPrefixClosedSaid : Prop := fnFoldersTrailingSlashAndPrefixClosedRow.holds Try.pinned (OpenSpec.ofChange fnFoldersTrailingSlashAndPrefixClosedSpec)

/-- ITS FALSE NEIGHBOUR: 'it returns false'. Refute it at one input. -/
def fnFoldersTrailingSlashAndPrefixClosedWrong : ChangeSpec := { name := "fnFoldersTrailingSlashAndPrefixClosed", fn := fun _ => fun
  | [d] => { results := [.lit (.bool false)], args := [d] }
  | _ => none }
def FnFoldersTrailingSlashAndPrefixClosedWrongFalsely : Prop := fnFoldersTrailingSlashAndPrefixClosedRow.holds Try.pinned (OpenSpec.ofChange fnFoldersTrailingSlashAndPrefixClosedWrong)

end Rows
end Go.Proofs.Qxb6631270a
