import Derived.Test.Qxb6631270aParts
namespace Go.Proofs.Qxb6631270a

theorem ba_ext {x y : ByteArray} (h : x.data.toList = y.data.toList) : x = y := by
  cases x; cases y
  simpa using h

theorem list_extract (s : ByteArray) (k : Nat) : (s.extract 0 k).data.toList = s.data.toList.take k := by
  simp [ByteArray.data_extract]

theorem list_append (x y : ByteArray) : (x ++ y).data.toList = x.data.toList ++ y.data.toList := by
  simp

theorem list_length (x : ByteArray) : x.data.toList.length = x.size := by
  simp

/-- The folders of a name. -/
def names (s : ByteArray) : List ByteArray := (slashes s.data.toList s.size).map fun i => s.extract 0 i

theorem held_names (s : ByteArray) : held s s.size = (names s).map Value.string := by
  simp [held, names]

theorem slashes_lt (l : List UInt8) (k i : Nat) (h : i ∈ slashes l k) : i < k := by
  unfold slashes at h
  simp at h
  exact h.1

theorem slashes_append (l m : List UInt8) (n k : Nat) (h : n = l.length) : slashes (l ++ m) (n + k) = slashes l n ++ (slashes m k).map (n + ·) := by
  subst h
  unfold slashes
  rw [List.range_add, List.filter_append, List.filter_map]
  congr 1
  · apply List.filter_congr
    intro i hi
    simp at hi
    rw [List.getElem?_append_left hi]
  · congr 1
    apply List.filter_congr
    intro i _
    simp only [Function.comp]
    rw [List.getElem?_append_right (by omega), Nat.add_sub_cancel_left]

theorem names_append (x y : ByteArray) : names (x ++ y) = names x ++ (names y).map (x ++ ·) := by
  unfold names
  rw [ByteArray.size_append, list_append, slashes_append _ _ _ _ (list_length x).symm, List.map_append]
  congr 1
  · apply List.map_congr_left
    intro i hi
    have hlt := slashes_lt _ _ _ hi
    apply ba_ext
    rw [list_extract, list_extract, list_append, List.take_append_of_le_length (by rw [list_length]; omega)]
  · rw [List.map_map, List.map_map]
    apply List.map_congr_left
    intro i _
    apply ba_ext
    simp only [Function.comp]
    rw [list_extract, list_append, list_append, list_extract, List.take_append, List.take_of_length_le (by rw [list_length]; omega), list_length]
    congr 2
    omega

theorem names_slash : names { data := #[47] } = [ByteArray.empty] := by decide +kernel

theorem names_tail (a : ByteArray) : names (a ++ { data := #[47] }) = names a ++ [a] := by
  rw [names_append, names_slash]
  simp

theorem names_split (a b : ByteArray) : names (a ++ { data := #[47] } ++ b) = names a ++ [a] ++ (names b).map (a ++ { data := #[47] } ++ ·) := by
  rw [names_append, names_tail]

theorem slashes_closed (l : List UInt8) (k i : Nat) (h : i < (slashes l k).length) : slashes l ((slashes l k)[i]) = (slashes l k).take i := by
  induction k with
  | zero => simp [slashes] at h
  | succ k ih =>
    by_cases hc : l[k]? = some 47
    · have e := slashes_hit l k hc
      by_cases hi : i < (slashes l k).length
      · have := ih hi
        simp only [e, List.getElem_append_left hi, List.take_append_of_le_length (Nat.le_of_lt hi)]
        exact this
      · have hl : i = (slashes l k).length := by rw [e] at h; simp at h; omega
        subst hl
        simp [e]
    · have e := slashes_miss l k hc
      simp only [e] at h ⊢
      exact ih h

theorem slashes_take (l : List UInt8) (k : Nat) : slashes (l.take k) k = slashes l k := by
  unfold slashes
  apply List.filter_congr
  intro i hi
  simp at hi
  rw [List.getElem?_take, if_pos hi]

theorem names_closed (s : ByteArray) (i : Nat) (h : i < (names s).length) : names ((names s)[i]) = (names s).take i := by
  have h' : i < (slashes s.data.toList s.size).length := by simpa [names] using h
  have hm : (slashes s.data.toList s.size)[i] ∈ slashes s.data.toList s.size := List.getElem_mem h'
  have hlt := slashes_lt _ _ _ hm
  have e : (names s)[i] = s.extract 0 ((slashes s.data.toList s.size)[i]) := by simp [names]
  rw [e]
  generalize hp : (slashes s.data.toList s.size)[i] = p at *
  have hc : slashes s.data.toList p = (slashes s.data.toList s.size).take i := by rw [← hp]; exact slashes_closed _ _ _ h'
  have hsz : (s.extract 0 p).size = p := by simp; omega
  unfold names
  rw [hsz, list_extract, slashes_take, ← List.map_take, ← hc]
  apply List.map_congr_left
  intro j hj
  have := slashes_lt _ _ _ hj
  apply ba_ext
  rw [list_extract, list_extract, list_extract, List.take_take, Nat.min_eq_left (by omega)]

theorem names_len (s : ByteArray) : (names s).length ≤ s.size := by
  simp only [names, List.length_map]
  exact slashes_len _ _

theorem names_size (s : ByteArray) (i : Nat) (h : i < (names s).length) : (names s)[i].size ≤ s.size := by
  simp [names]
  omega

end Go.Proofs.Qxb6631270a
