import Derived.Test.Qxb6632259aPlain
import Derived.WalkSpells
namespace Go.Proofs.Qxb6632259a
open Go.RowKit

theorem div_bd (t : Int) (n : Nat) (h : 0 ≤ t) (h1 : 1 ≤ n) (ht : t ≤ 9223372036854775) : 0 ≤ t / (n : Int) ∧ t / (n : Int) ≤ 9223372036854775 :=
  ⟨Int.ediv_nonneg h (by omega), Int.le_trans (Int.ediv_le_self _ h) ht⟩

set_option maxHeartbeats 1600000 in
set_option maxRecDepth 1000000 in
theorem counts_any (t : Int) (n : Nat) (w : World) (h1 : 1 ≤ n) (h2 : n ≤ 65536) (ht : t ≤ 9223372036854775) :
    Calls Try.prog 7 #[.int .i64 t, .int .i64 n] w fun e w' =>
      e = .returned (.slice (some ⟨w.heap.size, 0, none⟩) n n) ∧ w'.ownsRow w.heap.size 3 1 (.slice (some ⟨w.heap.size, 0, none⟩) n n) n (vals t n n) ∧ Below w.heap.size w w' := by
  obtain ⟨i0, hi, hz0, hz1, hz2⟩ := info_parts Try.info3
  go_enter Try.func7, Try.ntmps7
  go_wp2_with (at_make; refine wpList_make_full _ rfl _ _ 45 rfl w.heap.size 3 i0 (.int .i64 0) 1 Try.underlying45 hi hz0 hz1 .i64 .i64 _ _ n rfl rfl rfl rfl (by rw [hz2]; omega) (by unfold maxLen; omega) (Nat.le_refl _) ?_)
  intro w1 hown hgrow
  have hown0 : w1.ownsRow w.heap.size 3 1 (.slice (some ⟨w.heap.size, 0, none⟩) n n) n (vals t n 0) := by
    rw [vals_zero, ← toList_madeCells_one]
    simpa using hown
  have B1 : Below w.heap.size w w1 := (Below.refl _ _).grown hgrow (Nat.le_refl _) (fun k h => by cases h)
  clear hown hgrow
  go_wp2
  go_loopw [6, 11] (fun _ i wr => ∃ k : Nat, k ≤ n ∧ i = .int .i64 k ∧ wr.ownsRow w.heap.size 3 1 (.slice (some ⟨w.heap.size, 0, none⟩) n n) n (vals t n k) ∧ Below w.heap.size w wr)
    (fun _ i _ => n - (intOf i).toNat)
  case atStart => exact ⟨0, Nat.zero_le _, rfl, hown0, B1⟩
  case round =>
    clear hown0 B1
    obtain ⟨k, hk, rfl, hown, hb⟩ := hrel
    by_cases hlt : k < n
    · have hc : wr.cell? ⟨w.heap.size, k, none⟩ = some (.int .i64 0) := by rw [hown.cellAt k (by omega), vals_at _ _ _ _ hlt, if_neg (by omega)]
      have hf : wr.frozen? ⟨w.heap.size, k, none⟩ = false := hown.frozenAt k
      by_cases ht0 : 0 < t
      · have hq := div_bd t n (by omega) h1 ht
        have hq0 : 0 ≤ t / (n : Int) := hq.1
        have hq1 : t / (n : Int) ≤ 9223372036854775 := hq.2
        clear hq
        by_cases hm : (k : Int) < t % n
        · have HV : Hid (cnt t n k = t / n + 1) := by simp only [Hid, cnt]; rw [if_neg (by omega), if_pos hm]
          have R := (((hown.stored k (.int .i64 1)).1.stored k (.int .i64 (t / n))).1.stored k (.int .i64 (t / n + 1))).1
          rw [List.set_set, List.set_set, ← HV.out, vals_next, HV.out] at R
          have Bb : Below w.heap.size w (((wr.setCell ⟨w.heap.size, k, none⟩ (.int .i64 1)).setCell ⟨w.heap.size, k, none⟩ (.int .i64 (t / n))).setCell ⟨w.heap.size, k, none⟩ (.int .i64 (t / n + 1))) := ((hb.setCell (Nat.le_refl _) _).setCell (Nat.le_refl _) _).setCell (Nat.le_refl _) _
          go_wp2
          go_roundw
          case rel => exact ⟨k + 1, by omega, by go_num, R, Bb⟩
          case measure => simp [intOf]; omega
        · have HV : Hid (cnt t n k = t / n) := by simp only [Hid, cnt]; rw [if_neg (by omega), if_neg hm]; omega
          have R := ((hown.stored k (.int .i64 1)).1.stored k (.int .i64 (t / n))).1
          rw [List.set_set, ← HV.out, vals_next, HV.out] at R
          have Bb : Below w.heap.size w ((wr.setCell ⟨w.heap.size, k, none⟩ (.int .i64 1)).setCell ⟨w.heap.size, k, none⟩ (.int .i64 (t / n))) := (hb.setCell (Nat.le_refl _) _).setCell (Nat.le_refl _) _
          go_wp2
          go_roundw
          case rel => exact ⟨k + 1, by omega, by go_num, R, Bb⟩
          case measure => simp [intOf]; omega
      · have HV : Hid (cnt t n k = 1) := by simp only [Hid, cnt]; rw [if_pos (by omega)]
        have R := (hown.stored k (.int .i64 1)).1
        rw [← HV.out, vals_next, HV.out] at R
        have Bb : Below w.heap.size w (wr.setCell ⟨w.heap.size, k, none⟩ (.int .i64 1)) := hb.setCell (Nat.le_refl _) _
        go_wp2
        go_roundw
        case rel => exact ⟨k + 1, by omega, by go_num, R, Bb⟩
        case measure => simp [intOf]; omega
    · go_wp2
      go_ret
      have hkl : k = n := by omega
      subst hkl
      exact ⟨rfl, hown, hb⟩

end Go.Proofs.Qxb6632259a
