import Derived.Test.Qxb6631331aToAll
import Derived.Test.Qxb6631331aZz
import Derived.Test.Qxb6631331aUpd2
import Derived.Test.Qxb6631331aEq2
import Derived.Test.Qxb6631331aBytes
import Derived.LaidEqlPtr
namespace Go.Proofs.Qxb6631331a
open Go.RowKit

theorem boxed {w : World} {pa pq : Option Addr} {A : Option Amb} {Q : Option Qs} (ha : IsAmb w pa A) (hq : IsQs w pq Q) :
    IsRule (w.alloc (.cells #[.pointer pa, .pointer pq] 26)) (some ⟨w.heap.size, 0, none⟩) (some ⟨A, Q⟩) := (end1 26 ha hq).1.1

theorem Try.info46 : (Try.prog.info? 46).map (fun i => i.size) = some 2 := by kernel_rfl

/-- Two blocks of the call's own are two. -/
theorem neq_own {w : World} {a b : Addr} (hne : a ≠ b) (ha : Own w a) (hb : Own w b) :
    (binOp .neq 38 (.pointer (some a)) (.pointer (some b))).run Try.prog w = .ok (.bool true) w := by
  obtain ⟨ca, ta, ha⟩ := ha
  obtain ⟨cb, tb, hb⟩ := hb
  obtain ⟨j, hj, hsz⟩ : ∃ j, Try.prog.info? 46 = some j ∧ j.size ≠ 0 := by
    have h := Try.info46
    cases e : Try.prog.info? 46 with
    | none => rw [e] at h; simp at h
    | some j => rw [e] at h; simp at h; exact ⟨j, rfl, by omega⟩
  have hp := Try.underlying38
  have h : ∀ d : Nat, (Op.equalIn (d + 1) 38 (.pointer (some a)) (.pointer (some b))).run Try.prog w = .ok false w := fun d => by
    simp [Op.equalIn, run_underlying hp, sizeOf, typeInfo, hj, hsz, run_sameAddr_other w hne ha hb]
  simp only [binOp]
  simp [Op.equal, Op.maxDepth, h 9999]

theorem IsRule.lt {w : World} {a : Addr} {x : Option Rule} (h : IsRule w (some a) x) : a.block < w.heap.size := by
  rcases h with ⟨h, _⟩ | ⟨b, o, A, Q, pa, pq, h1, h2, c0, _⟩
  · simp at h
  · obtain rfl : a = ⟨b, o, none⟩ := by simpa using h1
    exact blk c0

set_option maxHeartbeats 1000000 in
set_option maxRecDepth 100000 in
theorem law4_some (p : Addr) (pa pq : Option Addr) (x : Rule) (A : Option Amb) (Q : Option Qs) (w : World) (hp : IsRule w (some p) (some x)) (ha : IsAmb w pa A) (hq : IsQs w pq Q) :
    Calls Try.prog 4 #[.pointer (some p), .agg #[.pointer pa, .pointer pq]] w fun e w' => e = .returned (.bool true) ∧ Below w.heap.size w w' := by
  have hb0 : Below w.heap.size w (w.alloc (.cells #[.pointer pa, .pointer pq] 26)) := belowA _ _
  have hc0 := boxed ha hq
  have hp0 := hp.kept hb0
  have ha0 := ha.kept hb0
  have hq0 := hq.kept hb0
  go_enter Try.func4, Try.ntmps4
  go_wp2_with fail
  refine (zz15_any _ _ _ _ _ _ _ hp0 ha0 hq0).mono ?_
  rintro e w1 ⟨⟨t, rfl⟩, b1⟩
  have B1 := hb0.trans (b1.mono hb0.size)
  have hp1 := hp0.kept b1
  have hc1 := hc0.kept b1
  clear hp0 hc0 ha0 hq0 hb0 b1
  cases t
  · go_wp2_with fail
    go_ret
    exact ⟨rfl, B1⟩
  · go_wp2_with fail
    refine (ruleBytes_any _ _ _ _ hp1).mono ?_
    rintro e w2 ⟨⟨m1, rfl⟩, rfl⟩
    go_wp2_with fail
    refine (ruleBytes_any _ _ _ _ hc1).mono ?_
    rintro e w3 ⟨⟨m2, rfl⟩, rfl⟩
    by_cases hm : (1048576 : Int) < m2
    · go_wp2_with fail
      go_ret
      exact ⟨rfl, B1⟩
    · go_wp2_with fail
      refine (to_some _ _ _ hp1).mono ?_
      rintro e w4 ⟨q4, rfl, ⟨hk4, _⟩, b4⟩
      have hp4 := (hp1.kept b4).kept (belowA w4 (.cells #[.pointer none, .pointer none] 46))
      have hc4 := (hc1.kept b4).kept (belowA w4 (.cells #[.pointer none, .pointer none] 46))
      have hk4' := hk4.kept (belowA w4 (.cells #[.pointer none, .pointer none] 46))
      have B4 := (B1.trans (b4.mono B1.size)).alloc (Nat.le_trans B1.size b4.size) (.cells #[.pointer none, .pointer none] 46)
      clear hp1 hc1 hk4 b4 B1
      go_wp2_with fail
      refine (to_some _ _ _ hp4).mono ?_
      rintro e w5 ⟨q5, rfl, ⟨hw5, _⟩, b5⟩
      have hp5 := hp4.kept b5
      have hc5 := hc4.kept b5
      have hk5 := hk4'.kept b5
      have B5 := B4.trans (b5.mono B4.size)
      clear hp4 hc4 hk4' b5 B4
      go_wp2_with fail
      refine (to_some _ _ _ hp5).mono ?_
      rintro e w6 ⟨q6, rfl, ⟨hx6, xo6⟩, b6⟩
      have be := belowA w6 (.cells #[.pointer none, .pointer none] 46)
      have he6 := (end1 46 (IsAmb.nil w6) (IsQs.nil w6)).1.1
      have hc6 := (hc5.kept b6).kept be
      have hk6 := (hk5.kept b6).kept be
      have hw6 := (hw5.kept b6).kept be
      have hx6' := hx6.kept be
      have B6 := (B5.trans (b6.mono B5.size)).trans (be.mono (Nat.le_trans B5.size b6.size))
      clear hp5 hc5 hk5 hw5 b6 B5 be
      go_wp2_with fail
      refine (updated_any _ _ _ _ _ hx6' he6).mono ?_
      rintro e w7 ⟨rfl, ⟨he7, eo7⟩, b7⟩
      have he7' : IsRule w7 (some ⟨w6.heap.size + 1, 0, none⟩) (some x) := by
        have h := he7
        rw [upd_empty, World.size_alloc] at h
        exact h
      have hc7 := hc6.kept b7
      have hk7 := hk6.kept b7
      have hw7 := hw6.kept b7
      have hx7 := hx6'.kept b7
      have B7 := B6.trans (b7.mono B6.size)
      have hlt : q6.block < w6.heap.size := hx6.lt
      have eo7' : Own w7 ⟨w6.heap.size + 1, 0, none⟩ := by rw [World.size_alloc] at eo7; exact eo7
      have xo7 := (own_alloc xo6 (.cells #[.pointer none, .pointer none] 46)).kept b7
      clear eo7 xo6
      clear hc6 hk6 hw6 hx6' he6 he7 b7 B6 hx6
      go_wp2_with fail
      refine (to_some _ _ _ hc7).mono ?_
      rintro e w8 ⟨q8, rfl, ⟨hd8, _⟩, b8⟩
      have hk8 := hk7.kept b8
      have hw8 := hw7.kept b8
      have hx8 := hx7.kept b8
      have he8 := he7'.kept b8
      have eo8 := eo7'.kept b8
      have xo8 := xo7.kept b8
      clear eo7' xo7
      have B8 := B7.trans (b8.mono B7.size)
      clear hc7 hk7 hw7 hx7 he7' b8 B7
      go_wp2_with fail
      refine (updated_any _ _ _ _ _ hx8 hd8).mono ?_
      rintro e w9 ⟨rfl, ⟨ho9, _⟩, b9⟩
      have hk9 := hk8.kept b9
      have hw9 := hw8.kept b9
      have hx9 := hx8.kept b9
      have he9 := he8.kept b9
      have eo9 := eo8.kept b9
      have xo9 := xo8.kept b9
      clear eo8 xo8
      have hd9 := hd8.kept b9
      have B9 := B8.trans (b9.mono B8.size)
      clear hk8 hw8 hx8 he8 hd8 b9 B8
      go_wp2_with fail
      refine (updated_any _ _ _ _ _ ho9 hd9).mono ?_
      rintro e w10 ⟨rfl, ⟨ht10, _⟩, b10⟩
      rw [upd_twice] at ht10
      have hk10 := hk9.kept b10
      have hw10 := hw9.kept b10
      have hx10 := hx9.kept b10
      have he10 := he9.kept b10
      have ho10 := ho9.kept b10
      have B10 := B9.trans (b10.mono B9.size)
      have hne := neq_own (w := w10) (a := ⟨w6.heap.size + 1, 0, none⟩) (b := q6) (fun h => by rw [← h] at hlt; simp at hlt; omega) (eo9.kept b10) (xo9.kept b10)
      clear hk9 hw9 hx9 he9 ho9 hd9 b10 B9 eo9 xo9
      go_wp2_with fail
      refine (eqRule_same _ _ _ _ he10 hw10).mono ?_
      rintro e w11 ⟨rfl, n11, rfl⟩
      go_wp2_with fail
      refine (eqRule_same _ _ _ _ (ho10.kept (bdrew _ _)) (ht10.kept (bdrew _ _))).mono ?_
      rintro e w12 ⟨rfl, n12, rfl⟩
      go_wp2_with fail
      refine (eqRule_same _ _ _ _ (hx10.kept (bdrew _ _)) (hk10.kept (bdrew _ _))).mono ?_
      rintro e w13 ⟨rfl, n13, rfl⟩
      go_wp2_with fail
      go_ret
      exact ⟨rfl, below_drewN B10 _⟩

set_option maxHeartbeats 1000000 in
set_option maxRecDepth 100000 in
theorem law4_nil (pa pq : Option Addr) (A : Option Amb) (Q : Option Qs) (w : World) (ha : IsAmb w pa A) (hq : IsQs w pq Q) :
    Calls Try.prog 4 #[.pointer none, .agg #[.pointer pa, .pointer pq]] w fun e w' => e = .returned (.bool true) ∧ Below w.heap.size w w' := by
  have hb0 : Below w.heap.size w (w.alloc (.cells #[.pointer pa, .pointer pq] 26)) := belowA _ _
  have hc0 := boxed ha hq
  have ha0 := ha.kept hb0
  have hq0 := hq.kept hb0
  go_enter Try.func4, Try.ntmps4
  go_wp2_with fail
  refine (zz15_any _ _ _ _ _ _ _ (IsRule.nil _) ha0 hq0).mono ?_
  rintro e w1 ⟨⟨t, rfl⟩, b1⟩
  have B1 := hb0.trans (b1.mono hb0.size)
  have hc1 := hc0.kept b1
  clear hc0 ha0 hq0 hb0 b1
  cases t
  · go_wp2_with fail
    go_ret
    exact ⟨rfl, B1⟩
  · go_wp2_with fail
    refine (ruleBytes_any _ _ _ _ (IsRule.nil _)).mono ?_
    rintro e w2 ⟨⟨m1, rfl⟩, rfl⟩
    go_wp2_with fail
    refine (ruleBytes_any _ _ _ _ hc1).mono ?_
    rintro e w3 ⟨⟨m2, rfl⟩, rfl⟩
    by_cases hm : (1048576 : Int) < m2
    · go_wp2_with fail
      go_ret
      exact ⟨rfl, B1⟩
    · go_wp2_with fail
      refine (to_nil _).mono ?_
      rintro e w4 ⟨rfl, rfl⟩
      have hw4 := (end1 46 (IsAmb.nil w4) (IsQs.nil w4)).1.1
      have hc4 := hc1.kept (belowA w4 (.cells #[.pointer none, .pointer none] 46))
      have B4 := B1.alloc B1.size (.cells #[.pointer none, .pointer none] 46)
      clear hc1 B1
      go_wp2_with fail
      refine (to_nil _).mono ?_
      rintro e w5 ⟨rfl, hw5⟩
      subst hw5
      have be := belowA (w4.alloc (.cells #[.pointer none, .pointer none] 46)) (.cells #[.pointer none, .pointer none] 46)
      have he6 := (end1 46 (IsAmb.nil (w4.alloc (.cells #[.pointer none, .pointer none] 46))) (IsQs.nil (w4.alloc (.cells #[.pointer none, .pointer none] 46)))).1.1
      rw [World.size_alloc] at he6
      have hc6 := hc4.kept be
      have hw6 := hw4.kept be
      have B6 := B4.trans (be.mono B4.size)
      clear hc4 hw4 B4 be
      go_wp2_with fail
      refine (updated_any _ _ _ _ _ (IsRule.nil _) he6).mono ?_
      rintro e w7 ⟨rfl, ⟨he7, _⟩, b7⟩
      rw [World.size_alloc, World.size_alloc, upd_empty] at he7
      have hc7 := hc6.kept b7
      have hw7 := hw6.kept b7
      have B7 := B6.trans (b7.mono B6.size)
      clear hc6 hw6 he6 b7 B6
      go_wp2_with fail
      refine (to_some _ _ _ hc7).mono ?_
      rintro e w8 ⟨q8, rfl, ⟨hd8, _⟩, b8⟩
      have hw8 := hw7.kept b8
      have he8 := he7.kept b8
      have B8 := B7.trans (b8.mono B7.size)
      clear hc7 hw7 he7 b8 B7
      go_wp2_with fail
      refine (updated_any _ _ _ _ _ (IsRule.nil _) hd8).mono ?_
      rintro e w9 ⟨rfl, ⟨ho9, _⟩, b9⟩
      have hw9 := hw8.kept b9
      have he9 := he8.kept b9
      have hd9 := hd8.kept b9
      have B9 := B8.trans (b9.mono B8.size)
      clear hw8 he8 hd8 b9 B8
      go_wp2_with fail
      refine (updated_any _ _ _ _ _ ho9 hd9).mono ?_
      rintro e w10 ⟨rfl, ⟨ht10, _⟩, b10⟩
      rw [upd_twice] at ht10
      have hw10 := hw9.kept b10
      have he10 := he9.kept b10
      have ho10 := ho9.kept b10
      have B10 := B9.trans (b10.mono B9.size)
      clear hw9 he9 ho9 hd9 b10 B9
      go_wp2_with fail
      refine (eqRule_same _ _ _ _ he10 hw10).mono ?_
      rintro e w11 ⟨rfl, n11, rfl⟩
      go_wp2_with fail
      refine (eqRule_same _ _ _ _ (ho10.kept (bdrew _ _)) (ht10.kept (bdrew _ _))).mono ?_
      rintro e w12 ⟨rfl, n12, rfl⟩
      go_wp2_with fail
      refine (eqRule_same _ _ _ _ (IsRule.nil _) (IsRule.nil _)).mono ?_
      rintro e w13 ⟨rfl, n13, rfl⟩
      go_wp2_with fail
      go_ret
      exact ⟨rfl, below_drewN B10 _⟩

theorem law4_any (p pa pq : Option Addr) (x : Option Rule) (A : Option Amb) (Q : Option Qs) (w : World) (hp : IsRule w p x) (ha : IsAmb w pa A) (hq : IsQs w pq Q) :
    Calls Try.prog 4 #[.pointer p, .agg #[.pointer pa, .pointer pq]] w fun e w' => e = .returned (.bool true) ∧ Below w.heap.size w w' := by
  rcases p with _ | a
  · exact law4_nil pa pq A Q w ha hq
  · rcases x with _ | x
    · rcases hp with ⟨h, _⟩ | ⟨_, _, _, _, _, _, _, h, _⟩ <;> simp at h
    · exact law4_some a pa pq x A Q w hp ha hq

end Go.Proofs.Qxb6631331a
