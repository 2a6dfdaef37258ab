import Derived.Test.Qxb6631331aToAll
import Derived.Test.Qxb6631331aPick
import Derived.Test.Qxb6631331aEq2
import Derived.Test.Qxb6631331aBytes
import Derived.Deep.DeepCutAuto
import Derived.Deep.RegionHeld3
import Derived.Deep.DrawnRows
namespace Go.Proofs.Qxb6631331a
open Go.RowKit
attribute [local go_sem ↓] Go.wp_at_zero Go.wp_at_succ

theorem IsQs.nilOf {w : World} {x : Option Qs} (h : IsQs w none x) : x = none := by
  rcases h with ⟨_, h⟩ | ⟨b, o, f, r, pf, pr, h, _⟩
  · exact h
  · simp at h
theorem IsQs.someOf {w : World} {a : Addr} {x : Option Qs} (h : IsQs w (some a) x) : ∃ y, x = some y := by
  rcases h with ⟨h, _⟩ | ⟨b, o, f, r, pf, pr, _, h, _⟩
  · simp at h
  · exact ⟨_, h⟩

theorem want1 {w : World} {a q : Option Addr} {A : Option Amb} {Q : Option Qs} (ha : IsAmb w a A) (hq : IsQs w q Q) :
    IsRule (w.alloc (.cells #[.pointer a, .pointer q] 26)).drew (some ⟨w.heap.size, 0, none⟩) (some ⟨A, Q⟩) ∧ Below w.heap.size w (w.alloc (.cells #[.pointer a, .pointer q] 26)).drew :=
  have h := end1 26 ha hq
  ⟨h.1.1.kept (Below.refl _ _).drew, h.2.drew⟩

theorem want2 {w : World} {a f r : Option Addr} {A : Option Amb} {F : Option Int} {R : Option Rarp} (ha : IsAmb w a A) (hf : IsInt w f F) (hr : IsArp w r R) :
    IsRule ((w.alloc (.cells #[.pointer a, .pointer (some ⟨w.heap.size + 1, 0, none⟩)] 26)).alloc (.cells #[.pointer f, .pointer r] 33)).drew.drew.drew (some ⟨w.heap.size, 0, none⟩) (some ⟨A, some ⟨F, R⟩⟩) ∧
    Below w.heap.size w ((w.alloc (.cells #[.pointer a, .pointer (some ⟨w.heap.size + 1, 0, none⟩)] 26)).alloc (.cells #[.pointer f, .pointer r] 33)).drew.drew.drew :=
  have h := end2 26 33 ha hf hr
  ⟨h.1.1.kept (Below.refl _ _).drew.drew.drew, h.2.drew.drew.drew⟩

theorem keep2 {w W : World} {p1 p2 : Addr} {v1 v2 : Value} (h : Below w.heap.size w W) (h1 : w.cell? p1 = some v1) (h2 : w.cell? p2 = some v2) :
    W.cell? p1 = some v1 ∧ W.cell? p2 = some v2 :=
  ⟨keptCell h h1, keptCell h h2⟩

set_option maxHeartbeats 2000000 in
set_option maxRecDepth 100000 in
theorem law3_walk (p pa pq pb ps : Option Addr) (x : Option Rule) (A : Option Amb) (Q : Option Qs) (B : Option Amb) (S : Option Qs) (w : World) (hp : IsRule w p x) (ha : IsAmb w pa A) (hq : IsQs w pq Q) (hb : IsAmb w pb B) (hs : IsQs w ps S)
    (HZ : Hid (∀ w', Below w.heap.size w w' → Calls Try.prog 5 #[.pointer p, .agg #[.pointer pa, .pointer pq], .agg #[.pointer pb, .pointer ps]] w' fun e w'' => (∃ b : Bool, e = .returned (.bool b)) ∧ Below w'.heap.size w' w'')) :
    Calls Try.prog 3 #[.pointer p, .agg #[.pointer pa, .pointer pq], .agg #[.pointer pb, .pointer ps]] w fun e w' => e = .returned (.bool true) ∧ Below w.heap.size w w' := by
  have hb0 := belowAA w (.cells #[.pointer pa, .pointer pq] 26) (.cells #[.pointer pb, .pointer ps] 26)
  have hA0 : IsRule ((w.alloc (.cells #[.pointer pa, .pointer pq] 26)).alloc (.cells #[.pointer pb, .pointer ps] 26)) (some ⟨w.heap.size, 0, none⟩) (some ⟨A, Q⟩) := ((end1 26 ha hq).1.1).kept (belowA _ _)
  have hB0 : IsRule ((w.alloc (.cells #[.pointer pa, .pointer pq] 26)).alloc (.cells #[.pointer pb, .pointer ps] 26)) (some ⟨w.heap.size + 1, 0, none⟩) (some ⟨B, S⟩) := by
    have h := (end1 (w := w.alloc (.cells #[.pointer pa, .pointer pq] 26)) 26 (hb.kept (belowA _ _)) (hs.kept (belowA _ _))).1.1
    rw [World.size_alloc] at h
    exact h
  go_enter Try.func3, Try.ntmps3
  go_wp2_with fail
  refine (HZ.out _ hb0).mono ?_
  rintro e w1 ⟨⟨t, rfl⟩, b1⟩
  have B1 := hb0.trans (b1.mono hb0.size)
  have hA1 := hA0.kept b1
  have hB1 := hB0.kept b1
  have hp1 := hp.kept B1
  clear HZ hb0 hA0 hB0
  cases t
  · go_wp2_with fail
    go_ret
    exact ⟨rfl, B1⟩
  · go_wp2_with fail
    refine (ruleBytes_any _ _ _ _ hp1).mono ?_
    rintro e w2 ⟨⟨m1, rfl⟩, rfl⟩
    go_wp2_with fail
    refine (ruleBytes_any _ _ _ _ hA1).mono ?_
    rintro e w3 ⟨⟨m2, rfl⟩, rfl⟩
    go_wp2_with fail
    refine (ruleBytes_any _ _ _ _ hB1).mono ?_
    rintro e w4 ⟨⟨m3, rfl⟩, rfl⟩
    by_cases hm : (1048576 : Int) < m3
    · go_wp2_with fail
      go_ret
      exact ⟨rfl, B1⟩
    · go_upto_if 32 with fail
      go_cut [8, 9] (fun s8 s9 w' => ∃ ra rq : Option Addr, s8 = .pointer ra ∧ s9 = .pointer rq ∧ IsAmb w4 ra (x.bind Rule.ambr) ∧ IsQs w4 rq (x.bind Rule.qos) ∧ w' = w4)
      case first =>
        rcases hp1 with ⟨rfl, rfl⟩ | ⟨b, o, xa, xq, pra, prq, rfl, rfl, c0, c1, hra, hrq⟩
        · go_wp2
          go_meet
          case rel => exact ⟨none, none, rfl, rfl, IsAmb.nil _, IsQs.nil _, rfl⟩
        · go_wp2
          go_meet
          case rel => exact ⟨_, _, rfl, rfl, hra, hrq, rfl⟩
      case rest =>
        obtain ⟨ra, rq, rfl, rfl, hra, hrq, rfl⟩ := hcut
        have cc0 : wc.cell? ⟨w.heap.size, 0, none⟩ = some (.pointer pa) := keptCell b1 (by rw [World.cell?_alloc_past _ _ _ (by simp), World.cell?_alloc_at _ _ _ _ rfl]; rfl)
        have cc1 : wc.cell? ⟨w.heap.size, 1, none⟩ = some (.pointer pq) := keptCell b1 (by rw [World.cell?_alloc_past _ _ _ (by simp), World.cell?_alloc_at _ _ _ _ rfl]; rfl)
        have cd0 : wc.cell? ⟨w.heap.size + 1, 0, none⟩ = some (.pointer pb) := keptCell b1 (by rw [World.cell?_alloc_at _ _ _ _ (by simp)]; rfl)
        have cd1 : wc.cell? ⟨w.heap.size + 1, 1, none⟩ = some (.pointer ps) := keptCell b1 (by rw [World.cell?_alloc_at _ _ _ _ (by simp)]; rfl)
        have lc := blk cc0
        have ld := blk cd0
        have HAmb : Hid _ := (hb.kept B1).or ((ha.kept B1).or hra)
        clear b1
        go_upto_region 14 with fail
        go_region_held3 (fun w' => w'.cell? ⟨w.heap.size, 0, none⟩ = some (.pointer pa) ∧ w'.cell? ⟨w.heap.size + 1, 0, none⟩ = some (.pointer pb)) ((refine keep2 ?_ cc0 cd0; (repeat (first | exact Below.refl _ _ | refine Below.drew ?_ | refine Below.setCell ?_ (by simp) _ | refine Below.alloc ?_ (by simp <;> omega) _)))) ((go_at_call 7; refine (pick7 _ _ _).mono ?_; rintro e w' ⟨rfl, rfl⟩))
        go_upto_region 15 with fail
        go_cut [60] (fun s w' => ∃ bb, s = .bool bb ∧ bb = (pq.isNone && ps.isNone) ∧ w' = (wc.alloc (.cells #[.pointer (pb.or (pa.or ra)), .pointer none] 26)).drew)
        case first =>
          cases pq
          all_goals
            go_wp2
            go_meet
            case rel => exact ⟨_, rfl, rfl, rfl⟩
        case rest =>
          obtain ⟨bb, rfl, hbb, rfl⟩ := hcut
          have HB : Hid (bb = (pq.isNone && ps.isNone)) := hbb
          clear hbb
          have hq4 := hq.kept B1
          have hs4 := hs.kept B1
          obtain ⟨fq, gq, tq, iq, jq⟩ := hq4.two
          obtain ⟨fs, gs, ts, is, js⟩ := hs4.two
          obtain ⟨fr, gr, tr, ir, jr⟩ := hrq.two
          have HF : Hid _ := is.or (iq.or ir)
          have HR : Hid _ := js.or (jq.or jr)
          clear iq is ir jq js jr hq4 hs4
          go_upto_if 60 with fail
          go_cut [] (fun w' => IsRule w' (some ⟨wc.heap.size, 0, none⟩) (some (last x ⟨A, Q⟩ ⟨B, S⟩)) ∧ Below wc.heap.size wc w')
          case first =>
            rcases pq with _ | aq <;> rcases ps with _ | as1
            · obtain rfl := hq.nilOf
              obtain rfl := hs.nilOf
              obtain rfl : bb = true := HB.out
              go_wp2
              go_meet
              case rel => exact want1 HAmb.out hrq
            · obtain rfl := hq.nilOf
              obtain ⟨ys, rfl⟩ := hs.someOf
              obtain rfl : bb = false := HB.out
              go_wp2
              go_region_held3 (fun w' => w'.cell? ⟨w.heap.size, 1, none⟩ = some (.pointer none) ∧ w'.cell? ⟨w.heap.size + 1, 1, none⟩ = some (.pointer (some as1))) ((refine keep2 ?_ cc1 cd1; (repeat (first | exact Below.refl _ _ | refine Below.drew ?_ | refine Below.setCell ?_ (by simp) _ | refine Below.alloc ?_ (by simp <;> omega) _)))) ((first | (go_at_call_of 9 (Value.pointer (some as1)); refine (five9 _ fs gs _ ?_).mono ?_; (focus (refine TwoAt.kept ts ?_; (repeat (first | exact Below.refl _ _ | refine Below.drew ?_ | refine Below.setCell ?_ (by simp) _ | refine Below.alloc ?_ (by simp <;> omega) _)))); rintro e w' ⟨rfl, rfl⟩) | (go_at_call_of 9 (Value.pointer none); refine (five9 _ fq gq _ ?_).mono ?_; (focus (refine TwoAt.kept tq ?_; (repeat (first | exact Below.refl _ _ | refine Below.drew ?_ | refine Below.setCell ?_ (by simp) _ | refine Below.alloc ?_ (by simp <;> omega) _)))); rintro e w' ⟨rfl, rfl⟩) | (go_at_call_of 9 (Value.pointer rq); refine (five9 _ fr gr _ ?_).mono ?_; (focus (refine TwoAt.kept tr ?_; (repeat (first | exact Below.refl _ _ | refine Below.drew ?_ | refine Below.setCell ?_ (by simp) _ | refine Below.alloc ?_ (by simp <;> omega) _)))); rintro e w' ⟨rfl, rfl⟩) | (go_at_call 8; refine (pick8 _ _ _).mono ?_; rintro e w' ⟨rfl, rfl⟩)))
              go_wp2
              go_region_held3 (fun w' => w'.cell? ⟨w.heap.size, 1, none⟩ = some (.pointer none) ∧ w'.cell? ⟨w.heap.size + 1, 1, none⟩ = some (.pointer (some as1))) ((refine keep2 ?_ cc1 cd1; (repeat (first | exact Below.refl _ _ | refine Below.drew ?_ | refine Below.setCell ?_ (by simp) _ | refine Below.alloc ?_ (by simp <;> omega) _)))) ((first | (go_at_call_of 11 (Value.pointer (some as1)); refine (arp11 _ fs gs _ ?_).mono ?_; (focus (refine TwoAt.kept ts ?_; (repeat (first | exact Below.refl _ _ | refine Below.drew ?_ | refine Below.setCell ?_ (by simp) _ | refine Below.alloc ?_ (by simp <;> omega) _)))); rintro e w' ⟨rfl, rfl⟩) | (go_at_call_of 11 (Value.pointer none); refine (arp11 _ fq gq _ ?_).mono ?_; (focus (refine TwoAt.kept tq ?_; (repeat (first | exact Below.refl _ _ | refine Below.drew ?_ | refine Below.setCell ?_ (by simp) _ | refine Below.alloc ?_ (by simp <;> omega) _)))); rintro e w' ⟨rfl, rfl⟩) | (go_at_call_of 11 (Value.pointer rq); refine (arp11 _ fr gr _ ?_).mono ?_; (focus (refine TwoAt.kept tr ?_; (repeat (first | exact Below.refl _ _ | refine Below.drew ?_ | refine Below.setCell ?_ (by simp) _ | refine Below.alloc ?_ (by simp <;> omega) _)))); rintro e w' ⟨rfl, rfl⟩) | (go_at_call 10; refine (pick10 _ _ _).mono ?_; rintro e w' ⟨rfl, rfl⟩)))
              go_wp2
              go_meet
              case rel => exact want2 HAmb.out HF.out HR.out
            · obtain ⟨yq, rfl⟩ := hq.someOf
              obtain rfl := hs.nilOf
              obtain rfl : bb = false := HB.out
              go_wp2
              go_region_held3 (fun w' => w'.cell? ⟨w.heap.size, 1, none⟩ = some (.pointer (some aq)) ∧ w'.cell? ⟨w.heap.size + 1, 1, none⟩ = some (.pointer none)) ((refine keep2 ?_ cc1 cd1; (repeat (first | exact Below.refl _ _ | refine Below.drew ?_ | refine Below.setCell ?_ (by simp) _ | refine Below.alloc ?_ (by simp <;> omega) _)))) ((first | (go_at_call_of 9 (Value.pointer none); refine (five9 _ fs gs _ ?_).mono ?_; (focus (refine TwoAt.kept ts ?_; (repeat (first | exact Below.refl _ _ | refine Below.drew ?_ | refine Below.setCell ?_ (by simp) _ | refine Below.alloc ?_ (by simp <;> omega) _)))); rintro e w' ⟨rfl, rfl⟩) | (go_at_call_of 9 (Value.pointer (some aq)); refine (five9 _ fq gq _ ?_).mono ?_; (focus (refine TwoAt.kept tq ?_; (repeat (first | exact Below.refl _ _ | refine Below.drew ?_ | refine Below.setCell ?_ (by simp) _ | refine Below.alloc ?_ (by simp <;> omega) _)))); rintro e w' ⟨rfl, rfl⟩) | (go_at_call_of 9 (Value.pointer rq); refine (five9 _ fr gr _ ?_).mono ?_; (focus (refine TwoAt.kept tr ?_; (repeat (first | exact Below.refl _ _ | refine Below.drew ?_ | refine Below.setCell ?_ (by simp) _ | refine Below.alloc ?_ (by simp <;> omega) _)))); rintro e w' ⟨rfl, rfl⟩) | (go_at_call 8; refine (pick8 _ _ _).mono ?_; rintro e w' ⟨rfl, rfl⟩)))
              go_wp2
              go_region_held3 (fun w' => w'.cell? ⟨w.heap.size, 1, none⟩ = some (.pointer (some aq)) ∧ w'.cell? ⟨w.heap.size + 1, 1, none⟩ = some (.pointer none)) ((refine keep2 ?_ cc1 cd1; (repeat (first | exact Below.refl _ _ | refine Below.drew ?_ | refine Below.setCell ?_ (by simp) _ | refine Below.alloc ?_ (by simp <;> omega) _)))) ((first | (go_at_call_of 11 (Value.pointer none); refine (arp11 _ fs gs _ ?_).mono ?_; (focus (refine TwoAt.kept ts ?_; (repeat (first | exact Below.refl _ _ | refine Below.drew ?_ | refine Below.setCell ?_ (by simp) _ | refine Below.alloc ?_ (by simp <;> omega) _)))); rintro e w' ⟨rfl, rfl⟩) | (go_at_call_of 11 (Value.pointer (some aq)); refine (arp11 _ fq gq _ ?_).mono ?_; (focus (refine TwoAt.kept tq ?_; (repeat (first | exact Below.refl _ _ | refine Below.drew ?_ | refine Below.setCell ?_ (by simp) _ | refine Below.alloc ?_ (by simp <;> omega) _)))); rintro e w' ⟨rfl, rfl⟩) | (go_at_call_of 11 (Value.pointer rq); refine (arp11 _ fr gr _ ?_).mono ?_; (focus (refine TwoAt.kept tr ?_; (repeat (first | exact Below.refl _ _ | refine Below.drew ?_ | refine Below.setCell ?_ (by simp) _ | refine Below.alloc ?_ (by simp <;> omega) _)))); rintro e w' ⟨rfl, rfl⟩) | (go_at_call 10; refine (pick10 _ _ _).mono ?_; rintro e w' ⟨rfl, rfl⟩)))
              go_wp2
              go_meet
              case rel => exact want2 HAmb.out HF.out HR.out
            · obtain ⟨yq, rfl⟩ := hq.someOf
              obtain ⟨ys, rfl⟩ := hs.someOf
              obtain rfl : bb = false := HB.out
              go_wp2
              go_region_held3 (fun w' => w'.cell? ⟨w.heap.size, 1, none⟩ = some (.pointer (some aq)) ∧ w'.cell? ⟨w.heap.size + 1, 1, none⟩ = some (.pointer (some as1))) ((refine keep2 ?_ cc1 cd1; (repeat (first | exact Below.refl _ _ | refine Below.drew ?_ | refine Below.setCell ?_ (by simp) _ | refine Below.alloc ?_ (by simp <;> omega) _)))) ((first | (go_at_call_of 9 (Value.pointer (some as1)); refine (five9 _ fs gs _ ?_).mono ?_; (focus (refine TwoAt.kept ts ?_; (repeat (first | exact Below.refl _ _ | refine Below.drew ?_ | refine Below.setCell ?_ (by simp) _ | refine Below.alloc ?_ (by simp <;> omega) _)))); rintro e w' ⟨rfl, rfl⟩) | (go_at_call_of 9 (Value.pointer (some aq)); refine (five9 _ fq gq _ ?_).mono ?_; (focus (refine TwoAt.kept tq ?_; (repeat (first | exact Below.refl _ _ | refine Below.drew ?_ | refine Below.setCell ?_ (by simp) _ | refine Below.alloc ?_ (by simp <;> omega) _)))); rintro e w' ⟨rfl, rfl⟩) | (go_at_call_of 9 (Value.pointer rq); refine (five9 _ fr gr _ ?_).mono ?_; (focus (refine TwoAt.kept tr ?_; (repeat (first | exact Below.refl _ _ | refine Below.drew ?_ | refine Below.setCell ?_ (by simp) _ | refine Below.alloc ?_ (by simp <;> omega) _)))); rintro e w' ⟨rfl, rfl⟩) | (go_at_call 8; refine (pick8 _ _ _).mono ?_; rintro e w' ⟨rfl, rfl⟩)))
              go_wp2
              go_region_held3 (fun w' => w'.cell? ⟨w.heap.size, 1, none⟩ = some (.pointer (some aq)) ∧ w'.cell? ⟨w.heap.size + 1, 1, none⟩ = some (.pointer (some as1))) ((refine keep2 ?_ cc1 cd1; (repeat (first | exact Below.refl _ _ | refine Below.drew ?_ | refine Below.setCell ?_ (by simp) _ | refine Below.alloc ?_ (by simp <;> omega) _)))) ((first | (go_at_call_of 11 (Value.pointer (some as1)); refine (arp11 _ fs gs _ ?_).mono ?_; (focus (refine TwoAt.kept ts ?_; (repeat (first | exact Below.refl _ _ | refine Below.drew ?_ | refine Below.setCell ?_ (by simp) _ | refine Below.alloc ?_ (by simp <;> omega) _)))); rintro e w' ⟨rfl, rfl⟩) | (go_at_call_of 11 (Value.pointer (some aq)); refine (arp11 _ fq gq _ ?_).mono ?_; (focus (refine TwoAt.kept tq ?_; (repeat (first | exact Below.refl _ _ | refine Below.drew ?_ | refine Below.setCell ?_ (by simp) _ | refine Below.alloc ?_ (by simp <;> omega) _)))); rintro e w' ⟨rfl, rfl⟩) | (go_at_call_of 11 (Value.pointer rq); refine (arp11 _ fr gr _ ?_).mono ?_; (focus (refine TwoAt.kept tr ?_; (repeat (first | exact Below.refl _ _ | refine Below.drew ?_ | refine Below.setCell ?_ (by simp) _ | refine Below.alloc ?_ (by simp <;> omega) _)))); rintro e w' ⟨rfl, rfl⟩) | (go_at_call 10; refine (pick10 _ _ _).mono ?_; rintro e w' ⟨rfl, rfl⟩)))
              go_wp2
              go_meet
              case rel => exact want2 HAmb.out HF.out HR.out
          case rest =>
            obtain ⟨hw2, bw⟩ := hcut
            have hp2 := hp1.kept bw
            have hA2 := hA1.kept bw
            have hB2 := hB1.kept bw
            have B2 := B1.trans (bw.mono B1.size)
            clear hp1 hA1 hB1 B1 bw HF HR HAmb HB tq ts tr cc0 cc1 cd0 cd1 hra hrq ha hq hb hs hp lc ld
            go_wp2_with fail
            refine (to_some _ _ _ hw2).mono ?_
            rintro e w5 ⟨q5, rfl, ⟨hw5, _⟩, b5⟩
            have hp5 := hp2.kept b5
            have hA5 := hA2.kept b5
            have hB5 := hB2.kept b5
            have B5 := B2.trans (b5.mono B2.size)
            clear hp2 hA2 hB2 hw2 B2 b5
            go_wp2_with fail
            refine (to_any _ _ _ hp5).mono ?_
            rintro e w6 ⟨q6, rfl, hx6, b6⟩
            have hA6 := hA5.kept b6
            have hB6 := hB5.kept b6
            have hw6 := hw5.kept b6
            have B6 := B5.trans (b6.mono B5.size)
            clear hp5 hA5 hB5 hw5 B5 b6
            go_wp2_with fail
            refine (to_some _ _ _ hA6).mono ?_
            rintro e w7 ⟨q7, rfl, ⟨ha7, _⟩, b7⟩
            have hB7 := hB6.kept b7
            have hw7 := hw6.kept b7
            have hx7 := hx6.kept b7
            have B7 := B6.trans (b7.mono B6.size)
            clear hA6 hB6 hw6 hx6 B6 b7
            go_wp2_with fail
            refine (to_some _ _ _ hB7).mono ?_
            rintro e w8 ⟨q8, rfl, ⟨hb8, _⟩, b8⟩
            have hw8 := hw7.kept b8
            have hx8 := hx7.kept b8
            have ha8 := ha7.kept b8
            have B8 := B7.trans (b8.mono B7.size)
            clear hB7 hw7 hx7 ha7 B7 b8
            go_wp2_with fail
            refine (updated_any _ _ _ _ _ hx8 ha8).mono ?_
            rintro e w9 ⟨rfl, ⟨hl9, _⟩, b9⟩
            have hw9 := hw8.kept b9
            have hx9 := hx8.kept b9
            have ha9 := ha8.kept b9
            have hb9 := hb8.kept b9
            have B9 := B8.trans (b9.mono B8.size)
            clear hw8 hx8 ha8 hb8 B8 b9
            go_wp2_with fail
            refine (updated_any _ _ _ _ _ hl9 hb9).mono ?_
            rintro e w10 ⟨rfl, ⟨hl10, _⟩, b10⟩
            rw [upd_left] at hl10
            have hw10 := hw9.kept b10
            have hx10 := hx9.kept b10
            have ha10 := ha9.kept b10
            have hb10 := hb9.kept b10
            have B10 := B9.trans (b10.mono B9.size)
            clear hw9 hx9 ha9 hb9 hl9 B9 b10
            go_wp2_with fail
            refine (updated_any _ _ _ _ _ ha10 hb10).mono ?_
            rintro e w11 ⟨rfl, ⟨hr11, _⟩, b11⟩
            have hw11 := hw10.kept b11
            have hx11 := hx10.kept b11
            have hl11 := hl10.kept b11
            have B11 := B10.trans (b11.mono B10.size)
            clear hw10 hx10 ha10 hb10 hl10 B10 b11
            go_wp2_with fail
            refine (updated_any _ _ _ _ _ hx11 hr11).mono ?_
            rintro e w12 ⟨rfl, ⟨hr12, _⟩, b12⟩
            rw [upd_right] at hr12
            have hw12 := hw11.kept b12
            have hl12 := hl11.kept b12
            have B12 := B11.trans (b12.mono B11.size)
            clear hw11 hx11 hl11 hr11 B11 b12
            go_wp2_with fail
            refine (eqRule_same _ _ _ _ hl12 hw12).mono ?_
            rintro e w13 ⟨rfl, n13, rfl⟩
            go_wp2_with fail
            refine (eqRule_same _ _ _ _ (hr12.kept (bdrew _ _)) (hw12.kept (bdrew _ _))).mono ?_
            rintro e w14 ⟨rfl, n14, rfl⟩
            go_wp2_with fail
            go_ret
            exact ⟨rfl, below_drewN B12 _⟩

end Go.Proofs.Qxb6631331a
