import Derived.Test.Qxb6632259aPlain
import Derived.WalkSpells
namespace Go.Proofs.Qxb6632259a
open Go.RowKit

/-- A role of a job in memory: its five numbers; no name, no models, no commands. -/
structure Nums where
  inst : Int
  min : Int
  gpu : Int
  cpu : Int
  mem : Int

/-- Role i of the row in block rb. -/
structure RoleAt (w : World) (rb i : Nat) (r : Nums) : Prop where
  c0 : w.cell? ⟨rb, i * 8, none⟩ = some (.string ByteArray.empty)
  c1 : w.cell? ⟨rb, i * 8 + 1, none⟩ = some (.int .i64 r.inst)
  c2 : w.cell? ⟨rb, i * 8 + 2, none⟩ = some (.int .i64 r.min)
  c3 : w.cell? ⟨rb, i * 8 + 3, none⟩ = some (.int .i64 r.gpu)
  c4 : w.cell? ⟨rb, i * 8 + 4, none⟩ = some (.int .i64 r.cpu)
  c5 : w.cell? ⟨rb, i * 8 + 5, none⟩ = some (.int .i64 r.mem)
  c6 : w.cell? ⟨rb, i * 8 + 6, none⟩ = some (.slice none 0 0)
  c7 : w.cell? ⟨rb, i * 8 + 7, none⟩ = some (.slice none 0 0)

theorem keptCell {w w' : World} (hb : Below w.heap.size w w') {p : Addr} {v : Value} (h : w.cell? p = some v) : w'.cell? p = some v :=
  (hb.cell (World.block_lt_of_cell? w _ h)).trans h

theorem RoleAt.kept {w w' : World} {rb i : Nat} {r : Nums} (h : RoleAt w rb i r) (hb : Below w.heap.size w w') : RoleAt w' rb i r :=
  ⟨keptCell hb h.c0, keptCell hb h.c1, keptCell hb h.c2, keptCell hb h.c3, keptCell hb h.c4, keptCell hb h.c5, keptCell hb h.c6, keptCell hb h.c7⟩

/-- The sum of the members, as Go's int has it. -/
def msum (R : Nat → Nums) : Nat → Int
  | 0 => 0
  | k + 1 => wrap64 (msum R k + (R k).inst)

theorem blk {w : World} {b o : Nat} {v : Value} (h : w.cell? ⟨b, o, none⟩ = some v) : b < w.heap.size := World.block_lt_of_cell? w _ h

set_option maxHeartbeats 1000000 in
theorem members_any (jb rb n c : Nat) (R : Nat → Nums) (w : World) (hn : n ≤ 16384) (hj : w.cell? ⟨jb, 1, none⟩ = some (.slice (some ⟨rb, 0, none⟩) n c)) (hr : ∀ i, i < n → RoleAt w rb i (R i)) :
    Calls Try.prog 8 #[.pointer (some ⟨jb, 0, none⟩)] w fun e w' => e = .returned (.int .i64 (msum R n)) ∧ Below w.heap.size w w' := by
  have HR : Hid (∀ i, i < n → RoleAt w rb i (R i)) := hr
  clear hr
  go_enter Try.func8, Try.ntmps8
  go_wp2
  go_loopw [3, 5, 11] (fun s _ i wr => ∃ k : Nat, k ≤ n ∧ i = .int .i64 k ∧ s = .int .i64 (msum R k) ∧ Below w.heap.size w wr) (fun _ _ i _ => n - (intOf i).toNat)
  case atStart => exact ⟨0, Nat.zero_le _, rfl, rfl, Below.refl _ _⟩
  case round =>
    obtain ⟨k, hk, rfl, rfl, hb⟩ := hrel
    by_cases hlt : k < n
    · have r := (HR.out k hlt)
      have lb := Nat.lt_of_lt_of_le (blk r.c0) hb.size
      obtain ⟨c0, c1, c2, c3, c4, c5, c6, c7⟩ : RoleAt wr rb k (R k) := by
        have g := r
        exact ⟨(hb.cell (blk g.c0)).trans g.c0, (hb.cell (blk g.c0)).trans g.c1, (hb.cell (blk g.c0)).trans g.c2, (hb.cell (blk g.c0)).trans g.c3, (hb.cell (blk g.c0)).trans g.c4, (hb.cell (blk g.c0)).trans g.c5, (hb.cell (blk g.c0)).trans g.c6, (hb.cell (blk g.c0)).trans g.c7⟩
      clear r
      go_wp2
      go_roundw
      case rel => exact ⟨k + 1, by omega, by go_num, rfl, hb.alloc hb.size _⟩
      case measure => simp [intOf]; omega
    · go_wp2
      go_ret
      have hkl : k = n := by omega
      subst hkl
      exact ⟨rfl, hb⟩

end Go.Proofs.Qxb6632259a
