import Derived.Test.Qxb6632259aIn
import Derived.Deep.DeepCutAuto
namespace Go.Proofs.Qxb6632259a
open Go.RowKit
attribute [local go_sem ↓] Go.wp_at_zero Go.wp_at_succ

theorem and_left {bb : Bool} {mm : Int} (h : true = (bb && decide (1 ≤ mm))) : bb = true := by
  cases bb
  · simp at h
  · rfl
theorem and_right {bb : Bool} {mm : Int} (h : true = (bb && decide (1 ≤ mm))) : 1 ≤ mm := by
  cases bb
  · simp at h
  · simpa using h.symm
theorem one_two {n : Nat} (h : true = (decide (1 ≤ n) && decide (n ≤ 2))) : n = 1 ∨ n = 2 := by
  have h' := h.symm
  simp at h'
  omega
theorem no_model {bb : Bool} {n : Nat} {mm : Int} {R : Nat → Nums} (h : bb = (decide (1 ≤ n) && decide (n ≤ 2))) (h2 : false = (bb && decide (1 ≤ mm))) (h3 : bb = true → mm = msum R n ∧ mm ≤ 65536) : n < 1 ∨ 2 < n ∨ msum R n < 1 := by
  cases bb
  · have h' := h.symm
    simp at h'
    omega
  · have e := (h3 rfl).1
    have h' := h2.symm
    simp at h'
    omega

theorem bytes_any (ao : Option Addr) (n cap : Nat) (t : Int) (w : World) (hn : n ≤ 16384) :
    Calls Try.prog 5 #[.slice ao n cap, .int .i64 t] w fun e w' => e = .returned (.bool true) ∧ w' = w := by
  go_enter Try.func5, Try.ntmps5
  go_wp2
  go_ret
  exact ⟨rfl, rfl⟩

set_option maxHeartbeats 8000000 in
set_option maxRecDepth 100000 in
theorem exact_main (ao : Option Addr) (n cap : Nat) (R : Nat → Nums) (t : Int) (w : World) (hn : n ≤ 16384) (ht : t ≤ 9223372036854775) (hin : Ins w ao n R) (hwf : ∀ i, i < n → -9223372036854775808 ≤ (R i).cpu ∧ (R i).cpu ≤ 9223372036854775807) :
    Calls Try.prog 3 #[.slice ao n cap, .int .i64 t] w fun e w' => e = .returned (.bool true) ∧ Below w.heap.size w w' := by
  have HI : Hid (Ins w ao n R) := hin
  have HW : Hid _ := hwf
  clear hin hwf
  go_enter Try.func3, Try.ntmps3
  go_wp2_with fail
  refine (bytes_any ao n cap t w hn).mono ?_
  rintro e w0 ⟨rfl, rfl⟩
  go_upto_region 9 with fail
  go_cut [35] (fun s w' => ∃ bb, s = .bool bb ∧ bb = (decide (1 ≤ n) && decide (n ≤ 2)) ∧ w' = w0)
  case first =>
    as_aux_lemma =>
      by_cases h1 : 1 ≤ n
      · have d1 : decide ((1 : Int) ≤ (n : Int)) = true := by simp; omega
        by_cases h2 : n ≤ 2
        · have d2 : decide ((n : Int) ≤ 2) = true := by simp; omega
          go_wp2
          go_meet
          case rel => exact ⟨_, rfl, by simp [h1, h2], rfl⟩
        · have d2 : decide ((n : Int) ≤ 2) = false := by simp; omega
          go_wp2
          go_meet
          case rel => exact ⟨_, rfl, by simp [h2], rfl⟩
      · have d1 : decide ((1 : Int) ≤ (n : Int)) = false := by simp; omega
        go_wp2
        go_meet
        case rel => exact ⟨_, rfl, by simp [h1], rfl⟩
  case rest =>
    obtain ⟨bb, rfl, hbb, rfl⟩ := hcut
    have HBB : Hid _ := hbb
    clear hbb
    obtain ⟨wa, rfl⟩ : ∃ wa : World, wa = wc := ⟨_, rfl⟩
    go_upto_if 35 with fail
    go_cut [6] (fun s w' => ∃ mm : Int, s = .int .i64 mm ∧ (bb = true → mm = msum R n ∧ mm ≤ 65536) ∧ w' = wa)
    case first =>
      as_aux_lemma =>
        cases bb
        · go_wp2
          go_meet
          case rel => exact ⟨0, rfl, (fun h => by cases h), rfl⟩
        · go_wp2_with fail
          go_loop [6, 7] (fun s i => ∃ k : Nat, k ≤ n ∧ i = .int .i64 k ∧ s = .int .i64 (msum R k)) (fun _ i => n - (intOf i).toNat)
          case atStart => exact ⟨0, Nat.zero_le _, rfl, rfl⟩
          case round =>
            obtain ⟨k, hk, rfl, rfl⟩ := hrel
            by_cases hlt : k < n
            · obtain ⟨b, off, rfl⟩ := Ins.addr HI.out (by omega)
              have c0 := (Ins.cellsAt HI.out k hlt).c0
              go_wp2
              go_round
              case rel => exact ⟨k + 1, by omega, by go_num, rfl⟩
              case measure => simp [intOf]; omega
            · have hkn : k = n := by omega
              subst hkn
              by_cases hm : (65536 : Int) < msum R k
              · go_wp2
                go_ret
                exact ⟨rfl, Below.refl _ _⟩
              · go_wp2
                go_meet
                case rel => exact ⟨_, rfl, fun _ => ⟨rfl, by omega⟩, rfl⟩
    case rest =>
      obtain ⟨mm, rfl, hmm, rfl⟩ := hcut
      have HMM : Hid _ := hmm
      clear hmm
      obtain ⟨wb, rfl⟩ : ∃ wb : World, wb = wc := ⟨_, rfl⟩
      go_upto_region 18 with fail
      go_cut [59] (fun s w' => ∃ b2, s = .bool b2 ∧ b2 = (bb && decide (1 ≤ mm)) ∧ w' = wb)
      case first =>
        as_aux_lemma =>
          have HE : Hid (bb = (decide (1 ≤ n) && decide (n ≤ 2))) := HBB.out
          by_cases h1 : 1 ≤ n
          · have d1 : decide ((1 : Int) ≤ (n : Int)) = true := by simp; omega
            by_cases h2 : n ≤ 2
            · have d2 : decide ((n : Int) ≤ 2) = true := by simp; omega
              obtain rfl : bb = true := by rw [HE.out]; simp [h1, h2]
              go_wp2
              go_meet
              case rel => exact ⟨_, rfl, rfl, rfl⟩
            · have d2 : decide ((n : Int) ≤ 2) = false := by simp; omega
              obtain rfl : bb = false := by rw [HE.out]; simp [h2]
              go_wp2
              go_meet
              case rel => exact ⟨_, rfl, rfl, rfl⟩
          · have d1 : decide ((1 : Int) ≤ (n : Int)) = false := by simp; omega
            obtain rfl : bb = false := by rw [HE.out]; simp [h1]
            go_wp2
            go_meet
            case rel => exact ⟨_, rfl, rfl, rfl⟩
      case rest =>
        obtain ⟨b2, rfl, hb2, rfl⟩ := hcut
        have HB2 : Hid _ := hb2
        clear hb2
        obtain ⟨wd, rfl⟩ : ∃ wd : World, wd = wc := ⟨_, rfl⟩
        go_upto_if 59 with fail
        go_cut [8, 9] (fun s8 s9 w' => ∃ wc wo, s8 = .int .i64 wc ∧ s9 = .bool wo ∧ Res n R t wc wo ∧ w' = wd)
        case first =>
          as_aux_lemma =>
            cases b2
            · have hno : n < 1 ∨ 2 < n ∨ msum R n < 1 := by
                exact no_model HBB.out HB2.out HMM.out
              go_wp2
              go_meet
              case rel => exact ⟨0, false, rfl, rfl, res_none hn hno, rfl⟩
            · obtain rfl : bb = true := and_left HB2.out
              have hm1 : 1 ≤ mm := and_right HB2.out
              obtain ⟨hms, hm2⟩ := HMM.out rfl
              obtain ⟨m, rfl⟩ := Int.eq_ofNat_of_zero_le (show 0 ≤ mm by omega)
              have h1 : 1 ≤ m := by omega
              have h2 : m ≤ 65536 := by omega
              have hn12 : n = 1 ∨ n = 2 := one_two HBB.out
              have HMS : Hid (msum R n = (m : Int)) := hms.symm
              obtain ⟨H, hH⟩ : ∃ H, cnt t m 0 = H := ⟨_, rfl⟩
              obtain ⟨L, hL⟩ : ∃ L, cnt t m ((m : Int) - 1) = L := ⟨_, rfl⟩
              have HH : Hid _ := hH
              have HL : Hid _ := hL
              have HX : Hid (1 ≤ t → (t + (m : Int) - 1) / m = H ∧ t / m = L) := fun ht1 => by
                have := cnt_hi_lo t m ht1 h1
                rw [hH, hL] at this
                exact ⟨this.1, this.2.1⟩
              have hb : 1 ≤ H ∧ H ≤ 9223372036854775 ∧ 0 ≤ L ∧ L ≤ 9223372036854775 ∧ L ≤ H ∧ (t ≤ 0 → H = 1 ∧ L = 1) := by
                by_cases ht1 : 1 ≤ t
                · have a := cnt_pos t m ht1 h1
                  have b := cnt_hi_lo t m ht1 h1
                  rw [hH, hL] at a
                  rw [hH, hL] at b
                  omega
                · have a := cnt_one t m 0 (by omega)
                  have b := cnt_one t m ((m : Int) - 1) (by omega)
                  rw [hH] at a
                  rw [hL] at b
                  omega
              obtain ⟨g1, g2, l0, l2, lh, hone⟩ := hb
              have HO : Hid _ := hone
              clear hms hm2 hH hL hone
              go_upto_if 61 with fail
              go_cut [10, 11] (fun s10 s11 w' => s10 = .int .i64 H ∧ s11 = .int .i64 L ∧ w' = wd)
              case first =>
                as_aux_lemma =>
                  by_cases ht1 : 0 < t
                  · obtain ⟨x1, x2⟩ := HX.out (by omega)
                    go_wp2
                    go_meet
                    case rel => exact ⟨rfl, rfl, rfl⟩
                  · obtain ⟨rfl, rfl⟩ := HO.out (by omega)
                    go_wp2
                    go_meet
                    case rel => exact ⟨rfl, rfl, rfl⟩
              case rest =>
                obtain ⟨rfl, rfl, rfl⟩ := hcut
                rcases hn12 with rfl | rfl
                · as_aux_lemma =>
                    have HA := Ins.addr HI.out (show 0 < 1 by omega)
                    obtain ⟨b, off, hao⟩ := HA
                    subst hao
                    obtain ⟨C0, hC0⟩ : ∃ C, (R 0).cpu = C := ⟨_, rfl⟩
                    have k0 : wc.cell? ⟨b, off + 3, none⟩ = some (.int .i64 C0) := by have g := (Ins.cellsAt HI.out 0 (by omega)).c3; rw [hC0] at g; simpa using g
                    obtain ⟨a0, a1⟩ := HW.out 0 (by omega)
                    rw [hC0] at a0 a1
                    have HC0 : Hid _ := hC0
                    clear hC0
                    by_cases hlow : L < 1
                    · go_wp2
                      go_meet
                      case rel => exact ⟨0, false, rfl, rfl, res_low1 h1 h2 ht HH.out HL.out HMS.out hlow, rfl⟩
                    · have l1 : 1 ≤ L := by omega
                      obtain ⟨⟨x1, x2⟩, ⟨x3, x4⟩, ⟨x5, x6⟩, x7, x8⟩ := quot_bd C0 H L a0 a1 g1 l0 lh
                      clear hlow
                      by_cases hd : C0.tdiv (H * 1000) * (H * 1000) = C0
                      · have d1 : (C0.tdiv (H * 1000) * (H * 1000) == C0) = true := by simpa using hd
                        have HD : Hid _ := hd
                        clear hd
                        go_wp2
                        go_meet
                        case rel => exact ⟨_, true, rfl, rfl, res_one h1 h2 ht HH.out HL.out HC0.out a0 a1 l1 l2 g1 g2 HMS.out HD.out, rfl⟩
                      · have d1 : (C0.tdiv (H * 1000) * (H * 1000) == C0) = false := by simpa using hd
                        have HD : Hid _ := hd
                        clear hd
                        go_wp2
                        go_meet
                        case rel => exact ⟨0, false, rfl, rfl, res_one_no h1 h2 ht HH.out HL.out HC0.out a0 a1 l1 l2 g1 g2 HMS.out HD.out, rfl⟩
                · as_aux_lemma =>
                    have HA := Ins.addr HI.out (show 0 < 2 by omega)
                    obtain ⟨b, off, hao⟩ := HA
                    subst hao
                    obtain ⟨C0, hC0⟩ : ∃ C, (R 0).cpu = C := ⟨_, rfl⟩
                    have k0 : wc.cell? ⟨b, off + 3, none⟩ = some (.int .i64 C0) := by have g := (Ins.cellsAt HI.out 0 (by omega)).c3; rw [hC0] at g; simpa using g
                    obtain ⟨a0, a1⟩ := HW.out 0 (by omega)
                    rw [hC0] at a0 a1
                    have HC0 : Hid _ := hC0
                    clear hC0
                    obtain ⟨C1, hC1⟩ : ∃ C, (R 1).cpu = C := ⟨_, rfl⟩
                    have k1 : wc.cell? ⟨b, off + 5 + 3, none⟩ = some (.int .i64 C1) := by have g := (Ins.cellsAt HI.out 1 (by omega)).c3; rw [hC1] at g; simpa using g
                    obtain ⟨b0, b1⟩ := HW.out 1 (by omega)
                    rw [hC1] at b0 b1
                    have HC1 : Hid _ := hC1
                    clear hC1
                    by_cases hlow : L < 1
                    · go_wp2
                      go_meet
                      case rel => exact ⟨0, false, rfl, rfl, res_low2 h1 h2 ht HH.out HL.out HMS.out hlow, rfl⟩
                    · have l1 : 1 ≤ L := by omega
                      obtain ⟨⟨x1, x2⟩, ⟨x3, x4⟩, ⟨x5, x6⟩, x7, x8⟩ := quot_bd C0 H L a0 a1 g1 l0 lh
                      clear hlow
                      by_cases hd : C0.tdiv (H * 1000) * (H * 1000) = C0
                      · have d1 : (C0.tdiv (H * 1000) * (H * 1000) == C0) = true := by simpa using hd
                        have HD : Hid _ := hd
                        clear hd
                        by_cases he : C0.tdiv (H * 1000) * L * 1000 = C1
                        · have d2 : (C0.tdiv (H * 1000) * L * 1000 == C1) = true := by simpa using he
                          have HE : Hid _ := he
                          clear he
                          go_wp2
                          go_meet
                          case rel => exact ⟨_, true, rfl, rfl, res_two h1 h2 ht HH.out HL.out HC0.out a0 a1 l1 l2 g1 g2 HC1.out b0 b1 HMS.out HD.out HE.out, rfl⟩
                        · have d2 : (C0.tdiv (H * 1000) * L * 1000 == C1) = false := by simpa using he
                          have HE : Hid _ := he
                          clear he
                          go_wp2
                          go_meet
                          case rel => exact ⟨0, false, rfl, rfl, res_two_other h1 h2 ht HH.out HL.out HC0.out a0 a1 l1 l2 g1 g2 HC1.out b0 b1 HMS.out HD.out HE.out, rfl⟩
                      · have d1 : (C0.tdiv (H * 1000) * (H * 1000) == C0) = false := by simpa using hd
                        have HD : Hid _ := hd
                        clear hd
                        go_wp2
                        go_meet
                        case rel => exact ⟨0, false, rfl, rfl, res_two_no h1 h2 ht HH.out HL.out HC0.out a0 a1 l1 l2 g1 g2 HC1.out b0 b1 HMS.out HD.out, rfl⟩
        case rest =>
          obtain ⟨qc, qo, rfl, rfl, hres, rfl⟩ := hcut
          have HRES : Hid (Res n R t qc qo) := hres
          clear hres HBB HMM HB2 HW
          obtain ⟨we, rfl⟩ : ∃ we : World, we = wc := ⟨_, rfl⟩
          obtain ⟨ir, hi, hz0, hz1, hz2⟩ := info_parts Try.info31
          go_wp2_with (at_make; refine wpList_make_full _ rfl _ _ 26 rfl we.heap.size 31 ir _ 8 Try.underlying26 hi hz0 hz1 .i64 .i64 _ _ n rfl rfl rfl rfl (by rw [hz2]; omega) (by unfold maxLen; omega) (Nat.le_refl _) ?_)
          intro w1 hown hgrow
          have hrow : RowTo w1 we.heap.size n 0 R := row_of_own hown
          have B1 : Below we.heap.size we w1 := (Below.refl _ _).grown hgrow (Nat.le_refl _) (fun k h => by cases h)
          clear hown hgrow hi hz0 hz1 hz2
          go_wp2_with fail
          go_loopw [15] (fun i wr => ∃ k : Nat, k ≤ n ∧ i = .int .i64 k ∧ RowTo wr we.heap.size n k R ∧ Below we.heap.size we wr) (fun i _ => n - (intOf i).toNat)
          case atStart => exact ⟨0, Nat.zero_le _, rfl, hrow, B1⟩
          case round =>
            clear hrow B1
            obtain ⟨k, hk, rfl, hrow, hb⟩ := hrel
            by_cases hlt : k < n
            · obtain ⟨b, off, hao⟩ := Ins.addr HI.out (show 0 < n by omega)
              subst hao
              have x := Ins.cellsAt HI.out k hlt
              have lx := blk x.c0
              have x0 := (hb.cell lx).trans x.c0
              have x1 := (hb.cell lx).trans x.c1
              have x2 := (hb.cell lx).trans x.c2
              have x3 := (hb.cell lx).trans x.c3
              have x4 := (hb.cell lx).trans x.c4
              obtain ⟨v0, y0⟩ := hrow.cellOf (k * 8) (by omega)
              obtain ⟨v1, y1⟩ := hrow.cellOf (k * 8 + 1) (by omega)
              obtain ⟨v2, y2⟩ := hrow.cellOf (k * 8 + 2) (by omega)
              obtain ⟨v3, y3⟩ := hrow.cellOf (k * 8 + 3) (by omega)
              obtain ⟨v4, y4⟩ := hrow.cellOf (k * 8 + 4) (by omega)
              obtain ⟨v5, y5⟩ := hrow.cellOf (k * 8 + 5) (by omega)
              obtain ⟨v6, y6⟩ := hrow.cellOf (k * 8 + 6) (by omega)
              obtain ⟨v7, y7⟩ := hrow.cellOf (k * 8 + 7) (by omega)
              have z0 := hrow.free (k * 8)
              have z1 := hrow.free (k * 8 + 1)
              have z2 := hrow.free (k * 8 + 2)
              have z3 := hrow.free (k * 8 + 3)
              have z4 := hrow.free (k * 8 + 4)
              have z5 := hrow.free (k * 8 + 5)
              have z6 := hrow.free (k * 8 + 6)
              have z7 := hrow.free (k * 8 + 7)
              have i1 : (k : Int) < (n : Int) := by omega
              have HR : Hid _ := hrow
              have HBL : Hid _ := hb
              clear x hrow hb
              go_wp2_with fail
              go_region
              go_wp2_with fail
              have RR := RowTo.drew (RowTo.next HR.out hlt)
              have BB := (below_put8 (o := k * 8) (r := R k) HBL.out (Nat.le_refl _)).drew
              unfold put8 at RR BB
              go_roundw
              case rel => exact ⟨k + 1, by omega, by go_num, RR, BB⟩
              case measure => simp [intOf]; omega
            · obtain rfl : k = n := by omega
              have HR : Hid (RowTo wr we.heap.size k k R) := hrow
              have HBL : Hid (Below we.heap.size we wr) := hb
              clear hrow hb
              go_wp2_with fail
              refine (HRES.out _ _ _ _ _ (jobn wr we.heap.size k R t HR.out.2)).mono ?_
              rintro e w2 ⟨rfl, b2⟩
              have BB : Below we.heap.size we w2 := by
                refine Below.trans ?_ (b2.mono ?_)
                · exact (HBL.out.alloc HBL.out.size _).alloc (by have := HBL.out.size; simp; omega) _
                · have := HBL.out.size; simp; omega
              clear b2
              go_wp2_with fail
              go_ret
              exact ⟨rfl, BB⟩

end Go.Proofs.Qxb6632259a
