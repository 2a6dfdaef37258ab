import Derived.Test.Qxb6631270aParts
import Derived.WalkSpells
namespace Go.Proofs.Qxb6631270a
open Go.RowKit

set_option maxHeartbeats 1600000 in
set_option maxRecDepth 1000000 in
theorem folders_any (s : ByteArray) (w : World) (hs : s.size ≤ 1048576) :
    Calls Try.prog 6 #[.string s] w fun e w' =>
      ∃ v, e = .returned v ∧ w'.ownsRow w.heap.size 9 1 v (held s s.size).length (held s s.size) ∧ Below w.heap.size w w' := by
  obtain ⟨i0, hi, hz0, hz1, hz2⟩ := info_parts Try.info9
  go_enter Try.func6, Try.ntmps6
  go_wp2
  go_loopw [3, 7] (fun v i wr => ∃ k : Nat, k ≤ s.size ∧ i = .int .i64 k ∧ wr.ownsRow w.heap.size 9 1 v (held s k).length (held s k) ∧ Below w.heap.size w wr)
    (fun _ i _ => s.size - (intOf i).toNat)
  case atStart => exact ⟨0, Nat.zero_le _, rfl, World.ownsRow_nil _ _ _ _, Below.refl _ _⟩
  case round =>
    obtain ⟨k, hk, rfl, hown, hnx⟩ := hrel
    have hl : (held s k).length ≤ k := by rw [held_len]; exact slashes_len _ _
    have hsz := hnx.size
    by_cases hlt : k < s.size
    · by_cases hc : ((s[k].toNat : Int) == 47) = true
      · have H := hit_of s k hlt hc
        have HH : Hid (held s (k + 1) = held s k ++ [.string (s.extract 0 k)]) := H.1
        clear H
        go_wp2_with (at_builtin; refine wpList_append_own _ rfl _ _ 23 rfl w.heap.size 9 i0 (.string ByteArray.empty) 1 16 Try.underlying23 hi hz0 hz1 hz2 rfl (by decide) _ _ _ rfl (hown.alloc _) ⟨wr.heap.size, 0, none⟩ 1 1 [.string (s.extract 0 k)] rfl rfl ?c1 ?c2 ?c3 ?c4 ?c5 ?_)
        case c1 => exact cell_one_new _ _ _
        case c2 => intro u hu; simp at hu; subst hu; rfl
        case c3 => unfold maxLen; omega
        case c4 => omega
        case c5 => simp; omega
        · intro v' w1 hown' hgrow _
          have R : w1.ownsRow w.heap.size 9 1 v' (held s (k + 1)).length (held s (k + 1)) := by rw [HH.out]; simpa using hown'
          have B : Below w.heap.size w w1 := (hnx.alloc hsz _).grown hgrow (by simp; omega) (fun j hj => (hown.lt j hj).1)
          clear hown' hgrow hown hnx HH
          go_wp2
          go_roundw
          case rel => exact ⟨k + 1, by omega, by simp, R, B⟩
          case measure => simp [intOf]; omega
      · have hc' : ((s[k].toNat : Int) == 47) = false := by simpa using hc
        have H := (miss_of s k hlt hc').1
        have HH : Hid (held s (k + 1) = held s k) := H
        clear H hc
        go_wp2
        go_roundw
        case rel => exact ⟨k + 1, by omega, by simp, by rw [HH.out]; exact hown, hnx⟩
        case measure => simp [intOf]; omega
    · go_wp2
      go_ret
      have hkl : k = s.size := by omega
      subst hkl
      exact ⟨_, rfl, hown, hnx⟩

end Go.Proofs.Qxb6631270a
