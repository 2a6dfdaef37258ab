import Derived.Test.Qxb6632259aIn
import Derived.ProofKit
import Derived.OpenShut
import Derived.Deep.Slices
namespace Go.Proofs.Qxb6632259a
open Go.ChangeShapes Go.WideShapes Go.ChangeAt Go.RowKit Go.Deep

theorem Try.cells25 : Try.prog.cellsOf 25 = 5 := by kernel_rfl
theorem Try.cells3 : Try.prog.cellsOf 3 = 1 := by kernel_rfl

section
variable {H : Type} {enc : TypeId × Value → H} {W : World} {base : Nat} {spare : Nat → Bool} {held : Bool} {fuel : Nat}

theorem five {l : List Value} (h : l.length = 5) : ∃ a b c d e, l = [a, b, c, d, e] := by
  match l, h with
  | [a, b, c, d, e], _ => exact ⟨a, b, c, d, e, rfl⟩

theorem int_field {cs : List Value} {xs : List (DataW H × List MemPlace)} {v : Value} {k : Nat} (hk : k < xs.length) (hv : cs = [v]) (h : DataW.trod enc Try.prog W base spare held fuel 3 cs = xs[k]?) :
    ∃ n : Int, v = .int .i64 n ∧ -9223372036854775808 ≤ n ∧ n ≤ 9223372036854775807 := by
  rw [List.getElem?_eq_getElem hk] at h
  obtain ⟨n, e, _, hw⟩ := DataW.trod_int Try.underlying3 h
  rw [hv] at e
  simp at e
  have := bounds_i64 hw
  exact ⟨n, e, this.1, this.2⟩

theorem open_elem {a : Addr} {cs : List Value} {x : DataW H × List MemPlace} (hc : W.cells? base a 5 = some cs) (h : DataW.trod enc Try.prog W base spare held fuel 25 cs = some x) :
    ∃ (b off : Nat) (r : Nums), a = ⟨b, off, none⟩ ∧ (-9223372036854775808 ≤ r.cpu ∧ r.cpu ≤ 9223372036854775807) ∧
      W.cell? ⟨b, off, none⟩ = some (.int .i64 r.inst) ∧ W.cell? ⟨b, off + 1, none⟩ = some (.int .i64 r.min) ∧ W.cell? ⟨b, off + 2, none⟩ = some (.int .i64 r.gpu) ∧ W.cell? ⟨b, off + 3, none⟩ = some (.int .i64 r.cpu) ∧ W.cell? ⟨b, off + 4, none⟩ = some (.int .i64 r.mem) := by
  obtain ⟨_, hlen, hcell⟩ := World.cells?_some hc
  obtain ⟨v0, v1, v2, v3, v4, rfl⟩ := five hlen
  obtain ⟨xs, n, _, _, _, hxl, hf⟩ := DataW.trod_struct Try.underlying25 h
  have hx5 : xs.length = 5 := hxl
  have g0 := hcell 0 (by omega)
  have g1 := hcell 1 (by omega)
  have g2 := hcell 2 (by omega)
  have g3 := hcell 3 (by omega)
  have g4 := hcell 4 (by omega)
  obtain ⟨b, off, spot⟩ := a
  have hspot : spot = none := by simpa [Addr.add] using World.cell?_spot g0
  subst hspot
  rw [add_plain] at g0 g1 g2 g3 g4
  have f0 : DataW.trod enc Try.prog W base spare held n 3 (([v0, v1, v2, v3, v4].drop 0).take (Try.prog.cellsOf 3)) = xs[0]? := hf 0 _ rfl
  have f1 : DataW.trod enc Try.prog W base spare held n 3 (([v0, v1, v2, v3, v4].drop 1).take (Try.prog.cellsOf 3)) = xs[1]? := hf 1 _ rfl
  have f2 : DataW.trod enc Try.prog W base spare held n 3 (([v0, v1, v2, v3, v4].drop 2).take (Try.prog.cellsOf 3)) = xs[2]? := hf 2 _ rfl
  have f3 : DataW.trod enc Try.prog W base spare held n 3 (([v0, v1, v2, v3, v4].drop 3).take (Try.prog.cellsOf 3)) = xs[3]? := hf 3 _ rfl
  have f4 : DataW.trod enc Try.prog W base spare held n 3 (([v0, v1, v2, v3, v4].drop 4).take (Try.prog.cellsOf 3)) = xs[4]? := hf 4 _ rfl
  rw [Try.cells3] at f0 f1 f2 f3 f4
  obtain ⟨n0, rfl, _⟩ := int_field (v := v0) (by omega) rfl f0
  obtain ⟨n1, rfl, _⟩ := int_field (v := v1) (by omega) rfl f1
  obtain ⟨n2, rfl, _⟩ := int_field (v := v2) (by omega) rfl f2
  obtain ⟨n3, rfl, q0, q1⟩ := int_field (v := v3) (by omega) rfl f3
  obtain ⟨n4, rfl, _⟩ := int_field (v := v4) (by omega) rfl f4
  exact ⟨b, off, ⟨n0, n1, n2, n3, n4⟩, rfl, ⟨q0, q1⟩, g0, g1, g2, g3, g4⟩

theorem open_ins {a0 : Option Addr} {len cap : Nat} {x : DataW H × List MemPlace} (h : DataW.trod enc Try.prog W base spare held fuel 22 [.slice a0 len cap] = some x) :
    ∃ R : Nat → Nums, Ins W a0 len R ∧ ∀ i, i < len → -9223372036854775808 ≤ (R i).cpu ∧ (R i).cpu ≤ 9223372036854775807 := by
  rcases open_slice Try.underlying22 h with ⟨hc, _⟩ | ⟨a, l, c, m, n, D, Pl, hc, _, hl, _, hm, _, hel⟩
  · simp at hc
    obtain ⟨rfl, rfl, rfl⟩ := hc
    exact ⟨fun _ => ⟨0, 0, 0, 0, 0⟩, fun i hi => by omega, fun i hi => by omega⟩
  · simp at hc
    obtain ⟨rfl, rfl, rfl⟩ := hc
    have hlm : len ≤ m := by rw [hm]; split <;> omega
    by_cases hz : len = 0
    · exact ⟨fun _ => ⟨0, 0, 0, 0, 0⟩, fun i hi => by omega, fun i hi => by omega⟩
    have hspot : a.spot = none := by
      obtain ⟨cs, hcs, htr⟩ := hel 0 (by omega)
      rw [Try.cells25] at hcs
      obtain ⟨b, off, r, he, _⟩ := open_elem hcs htr
      have h2 := congrArg Addr.spot he
      simpa [Addr.add] using h2
    obtain ⟨ab, ao, spot⟩ := a
    dsimp only at hspot
    subst hspot
    have key : ∀ i, i < len → ∃ r : Nums, (-9223372036854775808 ≤ r.cpu ∧ r.cpu ≤ 9223372036854775807) ∧ ∃ b off, (some ⟨ab, ao, none⟩ : Option Addr) = some ⟨b, off, none⟩ ∧ InAt W b off i r := by
      intro i hi
      obtain ⟨cs, hcs, htr⟩ := hel i (by omega)
      rw [Try.cells25] at hcs
      obtain ⟨b, off, r, he, hb, e0, e1, e2, e3, e4⟩ := open_elem hcs htr
      rw [add_plain] at he
      simp only [Addr.mk.injEq, and_true] at he
      obtain ⟨rfl, rfl⟩ := he
      exact ⟨r, hb, ab, ao, rfl, ⟨e0, e1, e2, e3, e4⟩⟩
    obtain ⟨R, hR⟩ := @choose_lt Nums ⟨⟨0, 0, 0, 0, 0⟩⟩ _ _ key
    exact ⟨R, fun i hi => (hR i hi).2, fun i hi => (hR i hi).1⟩

theorem slice_len {a0 : Option Addr} {len cap : Nat} {x : DataW H × List MemPlace} (h : DataW.trod enc Try.prog W base spare held fuel 22 [.slice a0 len cap] = some x) : len ≤ maxLen := by
  rcases open_slice Try.underlying22 h with ⟨hc, _⟩ | ⟨a, l, c, m, n, D, Pl, hc, _, hl, hm, _⟩
  · simp at hc
    obtain ⟨rfl, rfl, rfl⟩ := hc
    exact Nat.zero_le _
  · simp at hc
    obtain ⟨rfl, rfl, rfl⟩ := hc
    omega
end
end Go.Proofs.Qxb6632259a
