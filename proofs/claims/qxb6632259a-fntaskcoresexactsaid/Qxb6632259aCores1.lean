import Derived.Test.Qxb6632259aCores
namespace Go.Proofs.Qxb6632259a
open Go.RowKit
attribute [local go_sem ↓] Go.wp_at_zero Go.wp_at_succ
set_option linter.unusedVariables false

theorem members_eq (jb rb n c : Nat) (R : Nat → Nums) (w : World) (m : Nat) (hn : n ≤ 16384) (hj : w.cell? ⟨jb, 1, none⟩ = some (.slice (some ⟨rb, 0, none⟩) n c)) (hr : ∀ i, i < n → RoleAt w rb i (R i)) (hm : msum R n = (m : Int)) :
    Calls Try.prog 8 #[.pointer (some ⟨jb, 0, none⟩)] w fun e w' => e = .returned (.int .i64 (m : Int)) ∧ Below w.heap.size w w' := by
  have h := members_any jb rb n c R w hn hj hr
  rw [hm] at h
  exact h

set_option maxHeartbeats 1000000 in
theorem cores_low1 (jb rb bb c m : Nat) (R : Nat → Nums) (t H L : Int) (w : World) (h : JobAt w jb rb bb 1 c R t) (hm : msum R 1 = (m : Int)) (h1 : 1 ≤ m) (h2 : m ≤ 65536) (ht : t ≤ 9223372036854775)
    (hH : cnt t m 0 = H) (hL : cnt t m ((m : Int) - 1) = L) (hL1 : L < 1) :
    Calls Try.prog 6 #[.pointer (some ⟨jb, 0, none⟩)] w fun e w' => e = .returned (.tuple #[.int .i64 0, .bool false]) ∧ Below w.heap.size w w' := by
  obtain ⟨hj, hb, ht', hr⟩ := h
  have HJ : Hid _ := hj
  have HRR : Hid _ := hr
  have HM : Hid _ := hm
  clear hr hm
  go_enter Try.func6, Try.ntmps6
  go_wp2_with fail
  refine (members_eq jb rb 1 c R w m (by omega) HJ.out HRR.out HM.out).mono ?_
  rintro e w1 ⟨rfl, b1⟩
  have k1 := keptCell b1 hj
  have k2 := keptCell b1 hb
  have k3 := keptCell b1 ht'
  clear HM HJ HRR hj hb ht'
  go_wp2_with fail
  refine (counts_any t m w1 h1 h2 ht).mono ?_
  rintro e w2 ⟨rfl, hown, b2⟩
  have e0 : w2.cell? ⟨w1.heap.size, 0, none⟩ = some (.int .i64 H) := by rw [hown.cellAt 0 (by omega), vals_at _ _ _ _ (by omega), if_pos (by omega), ← hH]; rfl
  have e1 : w2.cell? ⟨w1.heap.size, m - 1, none⟩ = some (.int .i64 L) := by rw [hown.cellAt (m - 1) (by omega), vals_at _ _ _ _ (by omega), if_pos (by omega), ← hL, show ((m - 1 : Nat) : Int) = (m : Int) - 1 from by omega]
  have k4 := keptCell b2 k1
  have BB : Below w.heap.size w w2 := b1.trans (b2.mono b1.size)
  have HB : Hid (Below w.heap.size w w2) := BB
  clear k1 k2 k3 b1 b2 hown hH hL BB
  have lj := blk k4
  have lg := blk e0
  have i0 : (0 : Int) < (m : Int) := by omega
  have i1 : (m : Int) - 1 < (m : Int) := by omega
  have i2 : (0 : Int) ≤ (m : Int) - 1 := by omega
  go_wp2_with fail
  go_ret2
  exact ⟨rfl, HB.out⟩

set_option maxHeartbeats 1000000 in
theorem cores_low2 (jb rb bb c m : Nat) (R : Nat → Nums) (t H L : Int) (w : World) (h : JobAt w jb rb bb 2 c R t) (hm : msum R 2 = (m : Int)) (h1 : 1 ≤ m) (h2 : m ≤ 65536) (ht : t ≤ 9223372036854775)
    (hH : cnt t m 0 = H) (hL : cnt t m ((m : Int) - 1) = L) (hL1 : L < 1) :
    Calls Try.prog 6 #[.pointer (some ⟨jb, 0, none⟩)] w fun e w' => e = .returned (.tuple #[.int .i64 0, .bool false]) ∧ Below w.heap.size w w' := by
  obtain ⟨hj, hb, ht', hr⟩ := h
  have HJ : Hid _ := hj
  have HRR : Hid _ := hr
  have HM : Hid _ := hm
  clear hr hm
  go_enter Try.func6, Try.ntmps6
  go_wp2_with fail
  refine (members_eq jb rb 2 c R w m (by omega) HJ.out HRR.out HM.out).mono ?_
  rintro e w1 ⟨rfl, b1⟩
  have k1 := keptCell b1 hj
  have k2 := keptCell b1 hb
  have k3 := keptCell b1 ht'
  clear HM HJ HRR hj hb ht'
  go_wp2_with fail
  refine (counts_any t m w1 h1 h2 ht).mono ?_
  rintro e w2 ⟨rfl, hown, b2⟩
  have e0 : w2.cell? ⟨w1.heap.size, 0, none⟩ = some (.int .i64 H) := by rw [hown.cellAt 0 (by omega), vals_at _ _ _ _ (by omega), if_pos (by omega), ← hH]; rfl
  have e1 : w2.cell? ⟨w1.heap.size, m - 1, none⟩ = some (.int .i64 L) := by rw [hown.cellAt (m - 1) (by omega), vals_at _ _ _ _ (by omega), if_pos (by omega), ← hL, show ((m - 1 : Nat) : Int) = (m : Int) - 1 from by omega]
  have k4 := keptCell b2 k1
  have BB : Below w.heap.size w w2 := b1.trans (b2.mono b1.size)
  have HB : Hid (Below w.heap.size w w2) := BB
  clear k1 k2 k3 b1 b2 hown hH hL BB
  have lj := blk k4
  have lg := blk e0
  have i0 : (0 : Int) < (m : Int) := by omega
  have i1 : (m : Int) - 1 < (m : Int) := by omega
  have i2 : (0 : Int) ≤ (m : Int) - 1 := by omega
  go_wp2_with fail
  go_ret2
  exact ⟨rfl, HB.out⟩

set_option maxHeartbeats 1000000 in
theorem cores_one (jb rb bb c m : Nat) (R : Nat → Nums) (t C0 H L : Int) (w : World) (h : JobAt w jb rb bb 1 c R t) (hm : msum R 1 = (m : Int)) (h1 : 1 ≤ m) (h2 : m ≤ 65536) (ht : t ≤ 9223372036854775)
    (hC0 : (R 0).cpu = C0) (hH : cnt t m 0 = H) (hL : cnt t m ((m : Int) - 1) = L) (hL1 : 1 ≤ L) (hL2 : L ≤ 9223372036854775) (hH1 : 1 ≤ H) (hH2 : H ≤ 9223372036854775)
    (q0 : -9223372036854776 ≤ C0.tdiv (H * 1000)) (q1 : C0.tdiv (H * 1000) ≤ 9223372036854776) (hd : (C0.tmod (H * 1000) != 0) = false) :
    Calls Try.prog 6 #[.pointer (some ⟨jb, 0, none⟩)] w fun e w' => e = .returned (.tuple #[.int .i64 (C0.tdiv (H * 1000)), .bool true]) ∧ Below w.heap.size w w' := by
  obtain ⟨hj, hb, ht', hr⟩ := h
  have HJ : Hid _ := hj
  have HRR : Hid _ := hr
  have HM : Hid _ := hm
  have HR0 : Hid (RoleAt w rb 0 (R 0)) := hr 0 (by omega)
  clear hr hm
  go_enter Try.func6, Try.ntmps6
  go_wp2_with fail
  refine (members_eq jb rb 1 c R w m (by omega) HJ.out HRR.out HM.out).mono ?_
  rintro e w1 ⟨rfl, b1⟩
  have k1 := keptCell b1 hj
  have k2 := keptCell b1 hb
  have k3 := keptCell b1 ht'
  clear HM HJ HRR hj hb ht'
  go_wp2_with fail
  refine (counts_any t m w1 h1 h2 ht).mono ?_
  rintro e w2 ⟨rfl, hown, b2⟩
  have e0 : w2.cell? ⟨w1.heap.size, 0, none⟩ = some (.int .i64 H) := by rw [hown.cellAt 0 (by omega), vals_at _ _ _ _ (by omega), if_pos (by omega), ← hH]; rfl
  have e1 : w2.cell? ⟨w1.heap.size, m - 1, none⟩ = some (.int .i64 L) := by rw [hown.cellAt (m - 1) (by omega), vals_at _ _ _ _ (by omega), if_pos (by omega), ← hL, show ((m - 1 : Nat) : Int) = (m : Int) - 1 from by omega]
  have k4 := keptCell b2 k1
  have BB : Below w.heap.size w w2 := b1.trans (b2.mono b1.size)
  have kr : w2.cell? ⟨rb, 4, none⟩ = some (.int .i64 C0) := by have g := keptCell BB HR0.out.c4; rw [hC0] at g; simpa using g
  have HB : Hid (Below w.heap.size w w2) := BB
  clear k1 k2 k3 b1 b2 hown hH hL BB HR0 hC0
  have lj := blk k4
  have lg := blk e0
  have lr := blk kr
  have i0 : (0 : Int) < (m : Int) := by omega
  have i1 : (m : Int) - 1 < (m : Int) := by omega
  have i2 : (0 : Int) ≤ (m : Int) - 1 := by omega
  go_wp2_with fail
  go_region
  go_wp2_with fail
  refine wp_loop_rounds 2 ?_
  rw [rounds_succ]
  go_wp2_with fail
  rw [rounds_succ]
  go_wp2_with fail
  go_ret2
  exact ⟨rfl, (HB.out.alloc HB.out.size _).drew⟩

set_option maxHeartbeats 1000000 in
theorem cores_one_no (jb rb bb c m : Nat) (R : Nat → Nums) (t C0 H L : Int) (w : World) (h : JobAt w jb rb bb 1 c R t) (hm : msum R 1 = (m : Int)) (h1 : 1 ≤ m) (h2 : m ≤ 65536) (ht : t ≤ 9223372036854775)
    (hC0 : (R 0).cpu = C0) (hH : cnt t m 0 = H) (hL : cnt t m ((m : Int) - 1) = L) (hL1 : 1 ≤ L) (hL2 : L ≤ 9223372036854775) (hH1 : 1 ≤ H) (hH2 : H ≤ 9223372036854775)
    (q0 : -9223372036854776 ≤ C0.tdiv (H * 1000)) (q1 : C0.tdiv (H * 1000) ≤ 9223372036854776) (hd : (C0.tmod (H * 1000) != 0) = true) :
    Calls Try.prog 6 #[.pointer (some ⟨jb, 0, none⟩)] w fun e w' => e = .returned (.tuple #[.int .i64 0, .bool false]) ∧ Below w.heap.size w w' := by
  obtain ⟨hj, hb, ht', hr⟩ := h
  have HJ : Hid _ := hj
  have HRR : Hid _ := hr
  have HM : Hid _ := hm
  have HR0 : Hid (RoleAt w rb 0 (R 0)) := hr 0 (by omega)
  clear hr hm
  go_enter Try.func6, Try.ntmps6
  go_wp2_with fail
  refine (members_eq jb rb 1 c R w m (by omega) HJ.out HRR.out HM.out).mono ?_
  rintro e w1 ⟨rfl, b1⟩
  have k1 := keptCell b1 hj
  have k2 := keptCell b1 hb
  have k3 := keptCell b1 ht'
  clear HM HJ HRR hj hb ht'
  go_wp2_with fail
  refine (counts_any t m w1 h1 h2 ht).mono ?_
  rintro e w2 ⟨rfl, hown, b2⟩
  have e0 : w2.cell? ⟨w1.heap.size, 0, none⟩ = some (.int .i64 H) := by rw [hown.cellAt 0 (by omega), vals_at _ _ _ _ (by omega), if_pos (by omega), ← hH]; rfl
  have e1 : w2.cell? ⟨w1.heap.size, m - 1, none⟩ = some (.int .i64 L) := by rw [hown.cellAt (m - 1) (by omega), vals_at _ _ _ _ (by omega), if_pos (by omega), ← hL, show ((m - 1 : Nat) : Int) = (m : Int) - 1 from by omega]
  have k4 := keptCell b2 k1
  have BB : Below w.heap.size w w2 := b1.trans (b2.mono b1.size)
  have kr : w2.cell? ⟨rb, 4, none⟩ = some (.int .i64 C0) := by have g := keptCell BB HR0.out.c4; rw [hC0] at g; simpa using g
  have HB : Hid (Below w.heap.size w w2) := BB
  clear k1 k2 k3 b1 b2 hown hH hL BB HR0 hC0
  have lj := blk k4
  have lg := blk e0
  have lr := blk kr
  have i0 : (0 : Int) < (m : Int) := by omega
  have i1 : (m : Int) - 1 < (m : Int) := by omega
  have i2 : (0 : Int) ≤ (m : Int) - 1 := by omega
  go_wp2_with fail
  go_region
  go_wp2_with fail
  refine wp_loop_rounds 2 ?_
  rw [rounds_succ]
  go_wp2_with fail
  go_ret2
  exact ⟨rfl, (HB.out.alloc HB.out.size _).drew⟩

end Go.Proofs.Qxb6632259a
