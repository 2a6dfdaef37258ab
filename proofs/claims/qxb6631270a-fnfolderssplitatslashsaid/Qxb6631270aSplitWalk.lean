import Derived.Test.Qxb6631270aView
import Derived.WalkSpells
import Derived.WalkSmall
import Derived.BigQuiet
namespace Go.Proofs.Qxb6631270a
open Go.RowKit

theorem bytes_small (a b : ByteArray) (w : World) (ha : a.size ≤ 4096) (hb : b.size ≤ 4096) :
    Calls Try.prog 5 #[.string a, .string b] w fun e w' => e = .returned (.bool true) ∧ w' = w := by
  go_enter Try.func5, Try.ntmps5
  go_wp2
  go_ret
  exact ⟨rfl, rfl⟩

theorem split_long (a b : ByteArray) (w : World) (ha : a.size ≤ maxLen) (hb : b.size ≤ maxLen) (h : 4096 < a.size ∨ 4096 < b.size) :
    Calls Try.prog 3 #[.string a, .string b] w fun e w' => e = .returned (.bool true) ∧ Below w.heap.size w w' := by
  unfold maxLen at ha hb
  rcases h with h | h
  · go_enter Try.func3, Try.ntmps3
    go_wp2
    all_goals (go_ret; exact ⟨rfl, Below.refl _ _⟩)
  · go_enter Try.func3, Try.ntmps3
    go_wp2
    all_goals (go_ret; exact ⟨rfl, Below.refl _ _⟩)

/-- What the law asks of the three lists. -/
theorem split_facts (a b : ByteArray) :
    (names (a ++ { data := #[47] } ++ b)).length = (names a).length + 1 + (names b).length ∧
    (∀ k (h : k < (names a).length) (h' : k < (names (a ++ { data := #[47] } ++ b)).length), (names (a ++ { data := #[47] } ++ b))[k] = (names a)[k]) ∧
    (∀ (h' : (names a).length < (names (a ++ { data := #[47] } ++ b)).length), (names (a ++ { data := #[47] } ++ b))[(names a).length] = a) ∧
    (∀ k (h : k < (names b).length) (h' : (names a).length + 1 + k < (names (a ++ { data := #[47] } ++ b)).length), (names (a ++ { data := #[47] } ++ b))[(names a).length + 1 + k] = a ++ { data := #[47] } ++ (names b)[k]) := by
  have e := names_split a b
  refine ⟨by rw [e]; simp; omega, fun k h h' => ?_, fun h' => ?_, fun k h h' => ?_⟩
  · simp only [e, List.append_assoc, List.getElem_append_left h]
  · simp only [e, List.append_assoc]
    rw [List.getElem_append_right (Nat.le_refl _)]
    simp
  · simp only [e]
    rw [List.getElem_append_right (by simp)]
    simp

theorem join_size (a b : ByteArray) (ha : a.size ≤ 4096) (hb : b.size ≤ 4096) : (a ++ { data := #[47] } ++ b).size ≤ 1048576 := by
  rw [ByteArray.size_append, ByteArray.size_append]
  have : (ByteArray.mk #[47]).size = 1 := rfl
  omega

set_option maxHeartbeats 400000 in
set_option maxRecDepth 1000000 in
theorem split_short (a b : ByteArray) (w : World) (ha : a.size ≤ 4096) (hb : b.size ≤ 4096) :
    Calls Try.prog 3 #[.string a, .string b] w fun e w' => e = .returned (.bool true) ∧ Below w.heap.size w w' := by
  have da : decide ((4096 : Int) < ↑a.size) = false := by simp; omega
  have db : decide ((4096 : Int) < ↑b.size) = false := by simp; omega
  have hsz := join_size a b ha hb
  have nla := names_len a
  have nlb := names_len b
  obtain ⟨hl, hA, hM, hB⟩ := split_facts a b
  have HL := hl
  have HA : Hid _ := hA
  have HM : Hid _ := hM
  have HB : Hid _ := hB
  clear hA hM hB hl
  go_enter Try.func3, Try.ntmps3
  go_wp2_with fail
  refine (bytes_small a b w ha hb).mono ?_
  rintro e w0 ⟨rfl, rfl⟩
  go_wp2_with fail
  refine (folders_view _ w0 (by exact hsz)).mono ?_
  rintro e w1 ⟨o1, c1, rfl, h1, b1⟩
  obtain ⟨g1, rfl⟩ := h1.addr (by omega)
  go_wp2_with fail
  refine (folders_view a w1 (by omega)).mono ?_
  rintro e w2 ⟨o2, c2, rfl, h2, b2⟩
  go_wp2_with fail
  refine (folders_view b w2 (by omega)).mono ?_
  rintro e w3 ⟨o3, c3, rfl, h3, b3⟩
  have H1 : Hid (HoldsAt w3 (some ⟨g1, 0, none⟩) (names (a ++ { data := #[47] } ++ b))) := (h1.kept b2).kept b3
  have H2 : Hid (HoldsAt w3 o2 (names a)) := h2.kept b3
  have H3 : Hid (HoldsAt w3 o3 (names b)) := h3
  have BB : Below w0.heap.size w0 w3 := b1.trans ((b2.mono b1.size).trans (b3.mono (Nat.le_trans b1.size b2.size)))
  clear h1 h2 h3 b1 b2 b3
  go_wp2_with fail
  go_loopw [8] (fun i wr => ∃ k : Nat, k ≤ (names a).length ∧ i = .int .i64 k ∧ Below w3.heap.size w3 wr) (fun i _ => (names a).length - (intOf i).toNat)
  case atStart => exact ⟨0, Nat.zero_le _, rfl, Below.refl _ _⟩
  case round =>
    obtain ⟨k, hk, rfl, hbr⟩ := hrel
    by_cases hlt : k < (names a).length
    · obtain ⟨g2, rfl⟩ := H2.out.addr (by omega)
      have q1 : wr.cell? ⟨g1, k, none⟩ = some (.string (names a)[k]) := by rw [(H1.out.kept hbr).cellOf k (by omega), HA.out k hlt (by omega)]
      have q2 : wr.cell? ⟨g2, k, none⟩ = some (.string (names a)[k]) := (H2.out.kept hbr).cellOf k hlt
      have i1 : (k : Int) < ↑(names a).length + 1 + ↑(names b).length := by omega
      go_wp2_with fail
      go_quiet (fail)
      go_wp2_with fail
      go_roundw
      case rel => exact ⟨k + 1, by omega, by go_num, below_drewN hbr _⟩
      case measure => simp [intOf]; omega
    · have hkl : k = (names a).length := by omega
      subst hkl
      have qm : wr.cell? ⟨g1, (names a).length, none⟩ = some (.string a) := by rw [(H1.out.kept hbr).cellOf _ (by omega), HM.out (by omega)]
      have hbr1 : Below w3.heap.size w3 wr := hbr
      obtain ⟨wo, rfl⟩ : ∃ wo : World, wo = wr := ⟨_, rfl⟩
      go_wp2_with fail
      go_loopw [9] (fun i wr => ∃ k : Nat, k ≤ (names b).length ∧ i = .int .i64 k ∧ Below w3.heap.size w3 wr) (fun i _ => (names b).length - (intOf i).toNat)
      case atStart => exact ⟨0, Nat.zero_le _, rfl, hbr⟩
      case round =>
        clear hbr hbr1 qm
        obtain ⟨k, hk, rfl, hbr⟩ := hrel
        by_cases hlt : k < (names b).length
        · obtain ⟨g3, rfl⟩ := H3.out.addr (by omega)
          have hsb := names_size b k hlt
          have q1 : wr.cell? ⟨g1, (names a).length + 1 + k, none⟩ = some (.string (a ++ { data := #[47] } ++ (names b)[k])) := by rw [(H1.out.kept hbr).cellOf _ (by omega), HB.out k hlt (by omega)]
          have q2 : wr.cell? ⟨g3, k, none⟩ = some (.string (names b)[k]) := (H3.out.kept hbr).cellOf k hlt
          have i1 : (↑(names a).length + 1 + (k : Int)) < ↑(names a).length + 1 + ↑(names b).length := by omega
          go_wp2_with fail
          go_quiet (fail)
          go_wp2_with fail
          go_roundw
          case rel => exact ⟨k + 1, by omega, by go_num, below_drewN hbr _⟩
          case measure => simp [intOf]; omega
        · go_wp2_with fail
          go_ret
          exact ⟨rfl, BB.trans (hbr.mono BB.size)⟩

theorem split_all (a b : ByteArray) (w : World) (ha : a.size ≤ maxLen) (hb : b.size ≤ maxLen) :
    Calls Try.prog 3 #[.string a, .string b] w fun e w' => e = .returned (.bool true) ∧ Below w.heap.size w w' := by
  by_cases h1 : a.size ≤ 4096
  · by_cases h2 : b.size ≤ 4096
    · exact split_short a b w h1 h2
    · exact split_long a b w ha hb (Or.inr (by omega))
  · exact split_long a b w ha hb (Or.inl (by omega))

end Go.Proofs.Qxb6631270a
