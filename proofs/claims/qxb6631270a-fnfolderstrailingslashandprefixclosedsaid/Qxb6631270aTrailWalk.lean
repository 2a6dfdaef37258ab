import Derived.Test.Qxb6631270aView
import Derived.WalkSpells
import Derived.WalkSmall
import Derived.BigQuiet
namespace Go.Proofs.Qxb6631270a
open Go.RowKit

theorem bytes_small1 (a : ByteArray) (w : World) (ha : a.size ≤ 4096) :
    Calls Try.prog 7 #[.string a] w fun e w' => e = .returned (.bool true) ∧ w' = w := by
  go_enter Try.func7, Try.ntmps7
  go_wp2
  go_ret
  exact ⟨rfl, rfl⟩

theorem trail_long (a : ByteArray) (w : World) (ha : a.size ≤ maxLen) (h : 4096 < a.size) :
    Calls Try.prog 4 #[.string a] w fun e w' => e = .returned (.bool true) ∧ Below w.heap.size w w' := by
  unfold maxLen at ha
  go_enter Try.func4, Try.ntmps4
  go_wp2
  all_goals (go_ret; exact ⟨rfl, Below.refl _ _⟩)

theorem tail_facts (a : ByteArray) :
    (names (a ++ { data := #[47] })).length = (names a).length + 1 ∧
    (∀ k (_h : k < (names a).length) (h' : k < (names (a ++ { data := #[47] })).length), (names (a ++ { data := #[47] }))[k] = (names a)[k]) ∧
    (∀ (h' : (names a).length < (names (a ++ { data := #[47] })).length), (names (a ++ { data := #[47] }))[(names a).length] = a) := by
  have e := names_tail a
  refine ⟨by rw [e]; simp, fun k h h' => ?_, fun h' => ?_⟩
  · simp only [e, List.getElem_append_left h]
  · simp only [e]
    rw [List.getElem_append_right (Nat.le_refl _)]
    simp

theorem closed_facts (a : ByteArray) (i : Nat) (h : i < (names a).length) :
    (names (names a)[i]).length = i ∧ (∀ k (hk : k < i) (h' : k < (names (names a)[i]).length), (names (names a)[i])[k] = (names a)[k]) := by
  have e := names_closed a i h
  refine ⟨by rw [e, List.length_take]; omega, fun k hk h' => ?_⟩
  simp only [e, List.getElem_take]

theorem join_size1 (a : ByteArray) (ha : a.size ≤ 4096) : (a ++ { data := #[47] }).size ≤ 1048576 := by
  rw [ByteArray.size_append]
  have : (ByteArray.mk #[47]).size = 1 := rfl
  omega

set_option maxHeartbeats 800000 in
set_option maxRecDepth 1000000 in
theorem trail_short (a : ByteArray) (w : World) (ha : a.size ≤ 4096) :
    Calls Try.prog 4 #[.string a] w fun e w' => e = .returned (.bool true) ∧ Below w.heap.size w w' := by
  have da : decide ((4096 : Int) < ↑a.size) = false := by simp; omega
  have hsz := join_size1 a ha
  have nla := names_len a
  obtain ⟨HL, hA, hM⟩ := tail_facts a
  have HA : Hid _ := hA
  have HM : Hid _ := hM
  clear hA hM
  go_enter Try.func4, Try.ntmps4
  go_wp2_with fail
  refine (bytes_small1 a w ha).mono ?_
  rintro e w0 ⟨rfl, rfl⟩
  go_wp2_with fail
  refine (folders_view _ w0 (by omega)).mono ?_
  rintro e w1 ⟨o1, c1, rfl, h1, b1⟩
  go_wp2_with fail
  refine (folders_view _ w1 (by exact hsz)).mono ?_
  rintro e w2 ⟨o2, c2, rfl, h2, b2⟩
  obtain ⟨g2, rfl⟩ := h2.addr (by omega)
  have H1 : Hid (HoldsAt w2 o1 (names a)) := h1.kept b2
  have H2 : Hid (HoldsAt w2 (some ⟨g2, 0, none⟩) (names (a ++ { data := #[47] }))) := h2
  have BB : Below w0.heap.size w0 w2 := b1.trans (b2.mono b1.size)
  clear h1 h2 b1 b2
  go_wp2_with fail
  go_loopw [5] (fun i wr => ∃ k : Nat, k ≤ (names a).length ∧ i = .int .i64 k ∧ Below w2.heap.size w2 wr) (fun i _ => (names a).length - (intOf i).toNat)
  case atStart => exact ⟨0, Nat.zero_le _, rfl, Below.refl _ _⟩
  case round =>
    obtain ⟨k, hk, rfl, hbr⟩ := hrel
    by_cases hlt : k < (names a).length
    · obtain ⟨g1, rfl⟩ := H1.out.addr (by omega)
      have q1 : wr.cell? ⟨g2, k, none⟩ = some (.string (names a)[k]) := by rw [(H2.out.kept hbr).cellOf k (by omega), HA.out k hlt (by omega)]
      have q2 : wr.cell? ⟨g1, k, none⟩ = some (.string (names a)[k]) := (H1.out.kept hbr).cellOf k hlt
      have i1 : (k : Int) < ↑(names a).length + 1 := by omega
      go_wp2_with fail
      go_quiet (fail)
      go_wp2_with fail
      go_roundw
      case rel => exact ⟨k + 1, by omega, by go_num, below_drewN hbr _⟩
      case measure => simp [intOf]; omega
    · have hkl : k = (names a).length := by omega
      subst hkl
      have qm : wr.cell? ⟨g2, (names a).length, none⟩ = some (.string a) := by rw [(H2.out.kept hbr).cellOf _ (by omega), HM.out (by omega)]
      obtain ⟨wo, rfl⟩ : ∃ wo : World, wo = wr := ⟨_, rfl⟩
      go_wp2_with fail
      go_loopw [6, 7, 8] (fun i _ _ wr => ∃ k : Nat, k ≤ (names a).length ∧ i = .int .i64 k ∧ Below w2.heap.size w2 wr) (fun i _ _ _ => (names a).length - (intOf i).toNat)
      case atStart => exact ⟨0, Nat.zero_le _, rfl, hbr⟩
      case round =>
        clear hbr qm HM HA H2
        obtain ⟨k, hk, rfl, hbr⟩ := hrel
        by_cases hlt : k < (names a).length
        · obtain ⟨g1, rfl⟩ := H1.out.addr (by omega)
          have hss := names_size a k hlt
          have q2 : wr.cell? ⟨g1, k, none⟩ = some (.string (names a)[k]) := (H1.out.kept hbr).cellOf k hlt
          obtain ⟨HC, hD⟩ := closed_facts a k hlt
          have HD : Hid _ := hD
          clear hD
          go_wp2_with fail
          refine (folders_view _ wr (by omega)).mono ?_
          rintro e w4 ⟨o4, c4, rfl, h4, b4⟩
          have H4 : Hid (HoldsAt w4 o4 (names (names a)[k])) := h4
          have H14 : Hid (HoldsAt w4 (some ⟨g1, 0, none⟩) (names a)) := (H1.out.kept hbr).kept b4
          have B4 : Below w2.heap.size w2 w4 := hbr.trans (b4.mono hbr.size)
          clear q2 h4 b4 hbr
          obtain ⟨wi, rfl⟩ : ∃ wi : World, wi = wr := ⟨_, rfl⟩
          go_wp2_with fail
          go_loopw [8] (fun i wr => ∃ j : Nat, j ≤ k ∧ i = .int .i64 j ∧ Below w4.heap.size w4 wr) (fun i _ => k - (intOf i).toNat)
          case atStart => exact ⟨0, Nat.zero_le _, rfl, Below.refl _ _⟩
          case round =>
            obtain ⟨j, hj, rfl, hbj⟩ := hrel
            by_cases hjk : j < k
            · obtain ⟨g4, rfl⟩ := H4.out.addr (by omega)
              have q1 : wr.cell? ⟨g4, j, none⟩ = some (.string (names a)[j]) := by rw [(H4.out.kept hbj).cellOf j (by omega), HD.out j hjk (by omega)]
              have q2 : wr.cell? ⟨g1, j, none⟩ = some (.string (names a)[j]) := (H14.out.kept hbj).cellOf j (by omega)
              have i1 : (j : Int) < ↑(names a).length := by omega
              go_wp2_with fail
              go_quiet (fail)
              go_wp2_with fail
              go_roundw
              case rel => exact ⟨j + 1, by omega, by go_num, below_drewN hbj _⟩
              case measure => simp [intOf]; omega
            · go_wp2_with fail
              go_roundw
              case rel => exact ⟨k + 1, by omega, by go_num, B4.trans (hbj.mono B4.size)⟩
              case measure => simp [intOf]; omega
        · go_wp2_with fail
          go_ret
          exact ⟨rfl, BB.trans (hbr.mono BB.size)⟩

theorem trail_all (a : ByteArray) (w : World) (ha : a.size ≤ maxLen) :
    Calls Try.prog 4 #[.string a] w fun e w' => e = .returned (.bool true) ∧ Below w.heap.size w w' := by
  by_cases h1 : a.size ≤ 4096
  · exact trail_short a w h1
  · exact trail_long a w ha (by omega)

end Go.Proofs.Qxb6631270a
