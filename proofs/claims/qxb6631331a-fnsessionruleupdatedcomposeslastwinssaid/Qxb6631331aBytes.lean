import Derived.Test.Qxb6631331aMem
import Derived.WalkSpells
import Derived.WalkSmall
import Derived.BigQuiet
namespace Go.Proofs.Qxb6631331a
open Go.RowKit

theorem addLen_any (n : Int) (s : ByteArray) (w : World) :
    Calls Try.prog 16 #[.int .i64 n, .string s] w fun e w' => (∃ m : Int, e = .returned (.int .i64 m)) ∧ w' = w := by
  by_cases h1 : (1048576 : Int) < n
  · have d1 : decide ((1048576 : Int) < n) = true := by simpa using h1
    go_enter Try.func16, Try.ntmps16
    go_wp2
    go_ret
    exact ⟨⟨_, rfl⟩, rfl⟩
  · have d1 : decide ((1048576 : Int) < n) = false := by simpa using h1
    by_cases h2 : (1048576 : Int) < (s.size : Int)
    · go_enter Try.func16, Try.ntmps16
      go_wp2
      go_ret
      exact ⟨⟨_, rfl⟩, rfl⟩
    · go_enter Try.func16, Try.ntmps16
      go_wp2
      go_ret
      exact ⟨⟨_, rfl⟩, rfl⟩

theorem ruleBytes_any (n : Int) (p : Option Addr) (x : Option Rule) (w : World) (h : IsRule w p x) :
    Calls Try.prog 6 #[.int .i64 n, .pointer p] w fun e w' => (∃ m : Int, e = .returned (.int .i64 m)) ∧ w' = w := by
  rcases h with ⟨rfl, rfl⟩ | ⟨b, o, a, q, pa, pq, rfl, rfl, c0, c1, ha, hq⟩
  · go_enter Try.func6, Try.ntmps6
    go_wp2
    go_ret
    exact ⟨⟨_, rfl⟩, rfl⟩
  · rcases ha with ⟨rfl, rfl⟩ | ⟨ba, oa, u, d, rfl, rfl, a0, a1⟩
    · rcases hq with ⟨rfl, rfl⟩ | ⟨bq, oq, f, r, pf, pr, rfl, rfl, q0, q1, hf, hr⟩
      · go_enter Try.func6, Try.ntmps6
        go_wp2
        go_ret
        exact ⟨⟨_, rfl⟩, rfl⟩
      · rcases hr with ⟨rfl, rfl⟩ | ⟨br, or, l, c, v, rfl, rfl, r0, r1, r2⟩
        · go_enter Try.func6, Try.ntmps6
          go_wp2
          go_ret
          exact ⟨⟨_, rfl⟩, rfl⟩
        · go_enter Try.func6, Try.ntmps6
          go_wp2_with fail
          refine (addLen_any _ _ _).mono ?_
          rintro e w1 ⟨⟨m1, rfl⟩, rfl⟩
          go_wp2_with fail
          refine (addLen_any _ _ _).mono ?_
          rintro e w2 ⟨⟨m2, rfl⟩, rfl⟩
          go_wp2_with fail
          go_ret
          exact ⟨⟨_, rfl⟩, rfl⟩
    · rcases hq with ⟨rfl, rfl⟩ | ⟨bq, oq, f, r, pf, pr, rfl, rfl, q0, q1, hf, hr⟩
      · go_enter Try.func6, Try.ntmps6
        go_wp2_with fail
        refine (addLen_any _ _ _).mono ?_
        rintro e w1 ⟨⟨m1, rfl⟩, rfl⟩
        go_wp2_with fail
        refine (addLen_any _ _ _).mono ?_
        rintro e w2 ⟨⟨m2, rfl⟩, rfl⟩
        go_wp2_with fail
        go_ret
        exact ⟨⟨_, rfl⟩, rfl⟩
      · rcases hr with ⟨rfl, rfl⟩ | ⟨br, or, l, c, v, rfl, rfl, r0, r1, r2⟩
        · go_enter Try.func6, Try.ntmps6
          go_wp2_with fail
          refine (addLen_any _ _ _).mono ?_
          rintro e w1 ⟨⟨m1, rfl⟩, rfl⟩
          go_wp2_with fail
          refine (addLen_any _ _ _).mono ?_
          rintro e w2 ⟨⟨m2, rfl⟩, rfl⟩
          go_wp2_with fail
          go_ret
          exact ⟨⟨_, rfl⟩, rfl⟩
        · go_enter Try.func6, Try.ntmps6
          go_wp2_with fail
          refine (addLen_any _ _ _).mono ?_
          rintro e w1 ⟨⟨m1, rfl⟩, rfl⟩
          go_wp2_with fail
          refine (addLen_any _ _ _).mono ?_
          rintro e w2 ⟨⟨m2, rfl⟩, rfl⟩
          go_wp2_with fail
          refine (addLen_any _ _ _).mono ?_
          rintro e w3 ⟨⟨m3, rfl⟩, rfl⟩
          go_wp2_with fail
          refine (addLen_any _ _ _).mono ?_
          rintro e w4 ⟨⟨m4, rfl⟩, rfl⟩
          go_wp2_with fail
          go_ret
          exact ⟨⟨_, rfl⟩, rfl⟩

end Go.Proofs.Qxb6631331a
