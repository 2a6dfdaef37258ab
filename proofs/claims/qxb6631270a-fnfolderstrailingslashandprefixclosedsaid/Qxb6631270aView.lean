import Derived.Test.Qxb6631270aFolders
import Derived.Test.Qxb6631270aPlain
namespace Go.Proofs.Qxb6631270a
open Go.RowKit

/-- The slice at ao holds the strings l. -/
def HoldsAt (w : World) (ao : Option Addr) (l : List ByteArray) : Prop :=
  ∀ j (hj : j < l.length), ∃ g, ao = some ⟨g, 0, none⟩ ∧ w.cell? ⟨g, j, none⟩ = some (.string l[j])

theorem HoldsAt.kept {w w' : World} {ao : Option Addr} {l : List ByteArray} (h : HoldsAt w ao l) (hb : Below w.heap.size w w') : HoldsAt w' ao l := by
  intro j hj
  obtain ⟨g, e, hc⟩ := h j hj
  exact ⟨g, e, (hb.cell (p := ⟨g, j, none⟩) (World.block_lt_of_cell? w _ hc)).trans hc⟩

theorem HoldsAt.addr {w : World} {ao : Option Addr} {l : List ByteArray} (h : HoldsAt w ao l) (hl : 0 < l.length) : ∃ g, ao = some ⟨g, 0, none⟩ := by
  obtain ⟨g, e, _⟩ := h 0 hl
  exact ⟨g, e⟩

theorem HoldsAt.cellOf {w : World} {g : Nat} {l : List ByteArray} (h : HoldsAt w (some ⟨g, 0, none⟩) l) (j : Nat) (hj : j < l.length) : w.cell? ⟨g, j, none⟩ = some (.string l[j]) := by
  obtain ⟨g', e, hc⟩ := h j hj
  simp at e
  subst e
  exact hc

theorem holds_of_own {w : World} {base : Nat} {v : Value} {l : List ByteArray} (h : w.ownsRow base 9 1 v (l.map Value.string).length (l.map Value.string)) :
    ∃ ao cap, v = .slice ao l.length cap ∧ HoldsAt w ao l := by
  rcases h.2 with ⟨hv, hn⟩ | ⟨g, cap, cur, hv, _⟩
  · have hl : l.length = 0 := by simpa using hn
    exact ⟨none, 0, by rw [hl]; exact hv, fun j hj => by omega⟩
  · refine ⟨some ⟨g, 0, none⟩, cap, by rw [hv]; simp, fun j hj => ⟨g, rfl, ?_⟩⟩
    rw [hv] at h
    rw [h.cellAt j (by simpa using hj)]
    simp [hj]

theorem folders_view (s : ByteArray) (w : World) (hs : s.size ≤ 1048576) :
    Calls Try.prog 6 #[.string s] w fun e w' =>
      ∃ ao cap, e = .returned (.slice ao (names s).length cap) ∧ HoldsAt w' ao (names s) ∧ Below w.heap.size w w' := by
  refine (folders_any s w hs).mono ?_
  rintro e w' ⟨v, rfl, hown, hb⟩
  rw [held_names] at hown
  obtain ⟨ao, cap, rfl, hh⟩ := holds_of_own hown
  exact ⟨ao, cap, rfl, hh, hb⟩

end Go.Proofs.Qxb6631270a
