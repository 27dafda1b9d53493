import Derived.Test.Qxb6604758aLaw1
namespace Go.Proofs.Qxb6604758a
open Go.RowKit
set_option linter.unusedVariables false

set_option maxRecDepth 100000 in
set_option maxHeartbeats 400000 in
theorem law2_bad (s n1 : Int) (w : World)
    (h : s < 0 ∨ 4611686018427387904 < s ∨ (0 ≤ s ∧ s ≤ 4611686018427387904 ∧ (n1 < 0 ∨ 4611686018427387904 < n1))) :
    Calls Try.prog 4 #[.int .i64 s, .int .i64 n1] w fun e w' => e = .returned (.bool true) ∧ Grown w w' := by
  rcases h with h | h | ⟨a, b, h | h⟩
  all_goals
    go_enter Try.func4, Try.ntmps4
    go_wp2
    go_ret
    exact ⟨rfl, Grown.refl _⟩

set_option maxRecDepth 100000 in
set_option maxHeartbeats 1600000 in
theorem law2_y (s n : Int) (w : World) (s0 : 0 ≤ s) (s1 : s ≤ 4611686018427387904) (a0 : 0 ≤ n) (a1 : n ≤ 4611686018427387904)
    (y : n + 1 ≤ s) :
    Calls Try.prog 4 #[.int .i64 s, .int .i64 n] w fun e w' => e = .returned (.bool true) ∧ Grown w w' := by
  have T := three s w
  have TE := T.ne
  go_enter Try.func4, Try.ntmps4
  go_wp2_with fail
  refine (newBudget _ _).mono ?_
  rintro e w1 ⟨rfl, rfl⟩
  go_wp2_with fail
  refine (claim _ _).mono ?_
  rintro e w1 ⟨rfl, rfl⟩
  go_wp2_with fail
  refine (claim _ _).mono ?_
  rintro e w1 ⟨rfl, rfl⟩
  go_wp2_with fail
  have S := St.of_three T
  clear T TE
  refine (zzhold _ _ _ _ _ _ (st_first S n s0 s1 a0 a1)).mono ?_
  clear S
  rintro e w1 ⟨rfl, S⟩
  go_wp2_with fail
  refine (zy2 S 1 (n + 1) s0 s1 (by omega) (by omega) (by omega) (by omega) (by omega) (by omega) (by omega) (by omega)).mono ?_
  clear S
  rintro e w2 ⟨rfl, S⟩
  go_wp2_with fail
  refine (rel1 S 1 s0 s1 (by omega) (by omega) (by omega) (by omega) (by omega) (by omega)).mono ?_
  clear S
  rintro e w3 ⟨rfl, S⟩
  go_wp2_with fail
  refine (held1 S).mono ?_
  rintro e w4 ⟨rfl, rfl⟩
  go_wp2_with fail
  refine (held2 S).mono ?_
  rintro e w4 ⟨rfl, rfl⟩
  go_wp2_with fail
  refine (heldB S).mono ?_
  rintro e w4 ⟨rfl, rfl⟩
  go_wp2_with fail
  refine (rel1 S 1 s0 s1 (by omega) (by omega) (by omega) (by omega) (by omega) (by omega)).mono ?_
  clear S
  rintro e w3 ⟨rfl, S⟩
  go_wp2_with fail
  refine (held1 S).mono ?_
  rintro e w4 ⟨rfl, rfl⟩
  go_wp2_with fail
  refine (held2 S).mono ?_
  rintro e w4 ⟨rfl, rfl⟩
  go_wp2_with fail
  refine (heldB S).mono ?_
  rintro e w4 ⟨rfl, rfl⟩
  go_wp2_with fail
  refine (zy2 S s s s0 s1 (by omega) (by omega) (by omega) (by omega) (by omega) (by omega) (by omega) (by omega)).mono ?_
  clear S
  rintro e w5 ⟨rfl, S⟩
  go_wp2_with fail
  refine (held2 S).mono ?_
  rintro e w6 ⟨rfl, rfl⟩
  go_wp2_with fail
  refine (heldB S).mono ?_
  rintro e w6 ⟨rfl, rfl⟩
  go_wp2_with fail
  go_ret
  exact ⟨by simp, S.grown⟩

set_option maxRecDepth 100000 in
set_option maxHeartbeats 1600000 in
theorem law2_n (s n : Int) (w : World) (s0 : 0 ≤ s) (s1 : s ≤ 4611686018427387904) (a0 : 0 ≤ n) (a1 : n ≤ 4611686018427387904)
    (y : s < n + 1) :
    Calls Try.prog 4 #[.int .i64 s, .int .i64 n] w fun e w' => e = .returned (.bool true) ∧ Grown w w' := by
  have T := three s w
  have TE := T.ne
  go_enter Try.func4, Try.ntmps4
  go_wp2_with fail
  refine (newBudget _ _).mono ?_
  rintro e w1 ⟨rfl, rfl⟩
  go_wp2_with fail
  refine (claim _ _).mono ?_
  rintro e w1 ⟨rfl, rfl⟩
  go_wp2_with fail
  refine (claim _ _).mono ?_
  rintro e w1 ⟨rfl, rfl⟩
  go_wp2_with fail
  have S := St.of_three T
  clear T TE
  refine (zzhold _ _ _ _ _ _ (st_first S n s0 s1 a0 a1)).mono ?_
  clear S
  rintro e w1 ⟨rfl, S⟩
  go_wp2_with fail
  refine (zn2 S 1 s0 s1 (by omega) (by omega) (by omega) (by omega) (by omega) (by omega) (by omega)).mono ?_
  clear S
  rintro e w2 ⟨rfl, S⟩
  go_wp2_with fail
  refine (rel1 S 0 s0 s1 (by omega) (by omega) (by omega) (by omega) (by omega) (by omega)).mono ?_
  clear S
  rintro e w3 ⟨rfl, S⟩
  go_wp2_with fail
  refine (held1 S).mono ?_
  rintro e w4 ⟨rfl, rfl⟩
  go_wp2_with fail
  refine (held2 S).mono ?_
  rintro e w4 ⟨rfl, rfl⟩
  go_wp2_with fail
  refine (heldB S).mono ?_
  rintro e w4 ⟨rfl, rfl⟩
  go_wp2_with fail
  refine (rel1 S 0 s0 s1 (by omega) (by omega) (by omega) (by omega) (by omega) (by omega)).mono ?_
  clear S
  rintro e w3 ⟨rfl, S⟩
  go_wp2_with fail
  refine (held1 S).mono ?_
  rintro e w4 ⟨rfl, rfl⟩
  go_wp2_with fail
  refine (held2 S).mono ?_
  rintro e w4 ⟨rfl, rfl⟩
  go_wp2_with fail
  refine (heldB S).mono ?_
  rintro e w4 ⟨rfl, rfl⟩
  go_wp2_with fail
  refine (zy2 S s s s0 s1 (by omega) (by omega) (by omega) (by omega) (by omega) (by omega) (by omega) (by omega)).mono ?_
  clear S
  rintro e w5 ⟨rfl, S⟩
  go_wp2_with fail
  refine (held2 S).mono ?_
  rintro e w6 ⟨rfl, rfl⟩
  go_wp2_with fail
  refine (heldB S).mono ?_
  rintro e w6 ⟨rfl, rfl⟩
  go_wp2_with fail
  go_ret
  exact ⟨by simp, S.grown⟩

theorem law2 (s n : Int) (w : World) : Calls Try.prog 4 #[.int .i64 s, .int .i64 n] w fun e w' => e = .returned (.bool true) ∧ Grown w w' := by
  by_cases g : 0 ≤ s ∧ s ≤ 4611686018427387904 ∧ 0 ≤ n ∧ n ≤ 4611686018427387904
  · obtain ⟨s0, s1, a0, a1⟩ := g
    by_cases y : n + 1 ≤ s
    · exact law2_y s n w s0 s1 a0 a1 y
    · exact law2_n s n w s0 s1 a0 a1 (by omega)
  · exact law2_bad s n w (by omega)

end Go.Proofs.Qxb6604758a
