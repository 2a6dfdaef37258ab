import Derived.Test.Qxb6631270aRows
import Derived.WalkKit
namespace Go.Proofs.Qxb6631270a
open Go.RowKit

theorem Try.info9 : (Try.prog.info? 9).map (fun i => (i.zero, i.size, i.bytes)) = some (some (.string ByteArray.empty), 1, 16) := by kernel_rfl

/-- The places of the slashes among the first k bytes. -/
def slashes (l : List UInt8) (k : Nat) : List Nat := (List.range k).filter (fun i => l[i]? == some 47)

theorem slashes_len (l : List UInt8) (k : Nat) : (slashes l k).length ≤ k := by
  unfold slashes
  exact Nat.le_trans (List.length_filter_le _ _) (by simp)

theorem slashes_hit (l : List UInt8) (k : Nat) (h : l[k]? = some 47) : slashes l (k + 1) = slashes l k ++ [k] := by
  unfold slashes
  rw [List.range_succ, List.filter_append]
  simp [h]

theorem slashes_miss (l : List UInt8) (k : Nat) (h : l[k]? ≠ some 47) : slashes l (k + 1) = slashes l k := by
  unfold slashes
  rw [List.range_succ, List.filter_append]
  simp [h]

/-- What the slice of folders holds behind k rounds. -/
def held (s : ByteArray) (k : Nat) : List Value := (slashes s.data.toList k).map fun i => Value.string (s.extract 0 i)

theorem held_len (s : ByteArray) (k : Nat) : (held s k).length = (slashes s.data.toList k).length := by simp [held]

theorem byte_at (s : ByteArray) (k : Nat) (h : k < s.size) : s.data.toList[k]? = some s[k] := by
  rw [List.getElem?_eq_getElem (by simpa using h)]
  rfl

theorem hit_of (s : ByteArray) (k : Nat) (h : k < s.size) (e : ((s[k].toNat : Int) == 47) = true) : held s (k + 1) = held s k ++ [.string (s.extract 0 k)] ∧ slashes s.data.toList (k + 1) = slashes s.data.toList k ++ [k] := by
  have hb : s[k] = 47 := by
    have : s[k].toNat = 47 := by simp at e; omega
    exact UInt8.toNat.inj this
  have := slashes_hit s.data.toList k (by rw [byte_at s k h, hb])
  exact ⟨by simp [held, this], this⟩

theorem miss_of (s : ByteArray) (k : Nat) (h : k < s.size) (e : ((s[k].toNat : Int) == 47) = false) : held s (k + 1) = held s k ∧ slashes s.data.toList (k + 1) = slashes s.data.toList k := by
  have hb : s[k] ≠ 47 := by
    intro e'
    rw [e'] at e
    simp at e
  have := slashes_miss s.data.toList k (by rw [byte_at s k h]; simpa using hb)
  exact ⟨by simp [held, this], this⟩

end Go.Proofs.Qxb6631270a
