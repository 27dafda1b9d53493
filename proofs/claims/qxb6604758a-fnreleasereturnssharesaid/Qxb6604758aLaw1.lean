import Derived.Test.Qxb6604758aShare
namespace Go.Proofs.Qxb6604758a
open Go.RowKit
set_option linter.unusedVariables false

set_option maxRecDepth 100000 in
set_option maxHeartbeats 400000 in
theorem law1_bad (s n1 n2 : Int) (w : World)
    (h : s < 0 ∨ 4611686018427387904 < s ∨ (0 ≤ s ∧ s ≤ 4611686018427387904 ∧ (n1 < 0 ∨ 4611686018427387904 < n1 ∨ (0 ≤ n1 ∧ n1 ≤ 4611686018427387904 ∧ (n2 < 0 ∨ 4611686018427387904 < n2))))) :
    Calls Try.prog 3 #[.int .i64 s, .int .i64 n1, .int .i64 n2] w fun e w' => e = .returned (.bool true) ∧ Grown w w' := by
  rcases h with h | h | ⟨a, b, h | h | ⟨c, d, h | h⟩⟩
  all_goals
    go_enter Try.func3, Try.ntmps3
    go_wp2
    go_ret
    exact ⟨rfl, Grown.refl _⟩

theorem zy1 {size H h1 h2 : Int} {w W : World} (S : St size H h1 h2 w W) (n H' : Int)
    (s0 : 0 ≤ size) (s1 : size ≤ 4611686018427387904) (H0 : 0 ≤ H) (H1 : H ≤ 4611686018427387904)
    (h0 : 0 ≤ h1) (h1' : h1 ≤ 4611686018427387904) (n0 : 0 ≤ n) (n1 : n ≤ 4611686018427387904) (hyes : n - h1 ≤ size - H) (hH : H + (n - h1) = H') :
    Calls Try.prog 8 #[.pointer (some ⟨w.heap.size + 1, 0, none⟩), .int .i64 n, .bool false] W fun e w' => e = .returned (.bool true) ∧ St size H' n h2 w w' := by
  subst hH
  exact zzhold _ _ _ _ _ _ (st_yes1 S n s0 s1 H0 H1 h0 h1' n0 n1 hyes)

theorem zy2 {size H h1 h2 : Int} {w W : World} (S : St size H h1 h2 w W) (n H' : Int)
    (s0 : 0 ≤ size) (s1 : size ≤ 4611686018427387904) (H0 : 0 ≤ H) (H1 : H ≤ 4611686018427387904)
    (h0 : 0 ≤ h2) (h1' : h2 ≤ 4611686018427387904) (n0 : 0 ≤ n) (n1 : n ≤ 4611686018427387904) (hyes : n - h2 ≤ size - H) (hH : H + (n - h2) = H') :
    Calls Try.prog 8 #[.pointer (some ⟨w.heap.size + 2, 0, none⟩), .int .i64 n, .bool false] W fun e w' => e = .returned (.bool true) ∧ St size H' h1 n w w' := by
  subst hH
  exact zzhold _ _ _ _ _ _ (st_yes2 S n s0 s1 H0 H1 h0 h1' n0 n1 hyes)

theorem zn1 {size H h1 h2 : Int} {w W : World} (S : St size H h1 h2 w W) (n : Int)
    (s0 : 0 ≤ size) (s1 : size ≤ 4611686018427387904) (H0 : 0 ≤ H) (H1 : H ≤ 4611686018427387904)
    (h0 : 0 ≤ h1) (h1' : h1 ≤ 4611686018427387904) (n0 : 0 ≤ n) (n1 : n ≤ 4611686018427387904) (hno : size - H < n - h1) :
    Calls Try.prog 8 #[.pointer (some ⟨w.heap.size + 1, 0, none⟩), .int .i64 n, .bool false] W fun e w' => e = .returned (.bool false) ∧ St size H h1 h2 w w' :=
  zzhold _ _ _ _ _ _ (st_no1 S n s0 s1 H0 H1 h0 h1' n0 n1 hno)

theorem zn2 {size H h1 h2 : Int} {w W : World} (S : St size H h1 h2 w W) (n : Int)
    (s0 : 0 ≤ size) (s1 : size ≤ 4611686018427387904) (H0 : 0 ≤ H) (H1 : H ≤ 4611686018427387904)
    (h0 : 0 ≤ h2) (h1' : h2 ≤ 4611686018427387904) (n0 : 0 ≤ n) (n1 : n ≤ 4611686018427387904) (hno : size - H < n - h2) :
    Calls Try.prog 8 #[.pointer (some ⟨w.heap.size + 2, 0, none⟩), .int .i64 n, .bool false] W fun e w' => e = .returned (.bool false) ∧ St size H h1 h2 w w' :=
  zzhold _ _ _ _ _ _ (st_no2 S n s0 s1 H0 H1 h0 h1' n0 n1 hno)

theorem rel1 {size H h1 h2 : Int} {w W : World} (S : St size H h1 h2 w W) (H' : Int)
    (s0 : 0 ≤ size) (s1 : size ≤ 4611686018427387904) (H0 : 0 ≤ H) (H1 : H ≤ 4611686018427387904)
    (h0 : 0 ≤ h1) (h1' : h1 ≤ 4611686018427387904) (hyes : 0 - h1 ≤ size - H) (hH : H + (0 - h1) = H') :
    Calls Try.prog 9 #[.pointer (some ⟨w.heap.size + 1, 0, none⟩)] W fun e w' => e = .returned (.tuple #[]) ∧ St size H' 0 h2 w w' := by
  subst hH
  exact release _ _ _ _ (st_yes1 S 0 s0 s1 H0 H1 h0 h1' (by omega) (by omega) hyes)

theorem held1 {size H h1 h2 : Int} {w W : World} (S : St size H h1 h2 w W) :
    Calls Try.prog 10 #[.pointer (some ⟨w.heap.size + 1, 0, none⟩)] W fun e w' => e = .returned (.int .i64 h1) ∧ w' = W := claimHeld _ _ _ _ S.c1
theorem held2 {size H h1 h2 : Int} {w W : World} (S : St size H h1 h2 w W) :
    Calls Try.prog 10 #[.pointer (some ⟨w.heap.size + 2, 0, none⟩)] W fun e w' => e = .returned (.int .i64 h2) ∧ w' = W := claimHeld _ _ _ _ S.c2
theorem heldB {size H h1 h2 : Int} {w W : World} (S : St size H h1 h2 w W) :
    Calls Try.prog 11 #[.pointer (some ⟨w.heap.size, 0, none⟩)] W fun e w' => e = .returned (.int .i64 H) ∧ w' = W := budgetHeld _ _ _ _ S.bud

set_option maxRecDepth 100000 in
set_option maxHeartbeats 1600000 in
theorem law1_yy (s n1 n2 : Int) (w : World) (s0 : 0 ≤ s) (s1 : s ≤ 4611686018427387904) (a0 : 0 ≤ n1) (a1 : n1 ≤ 4611686018427387904) (b0 : 0 ≤ n2) (b1 : n2 ≤ 4611686018427387904)
    (y1 : n1 ≤ s) (y2 : n2 ≤ s - n1) :
    Calls Try.prog 3 #[.int .i64 s, .int .i64 n1, .int .i64 n2] w fun e w' => e = .returned (.bool true) ∧ Grown w w' := by
  have T := three s w
  have TE := T.ne
  go_enter Try.func3, Try.ntmps3
  go_wp2_with fail
  refine (newBudget _ _).mono ?_
  rintro e w1 ⟨rfl, rfl⟩
  go_wp2_with fail
  refine (claim _ _).mono ?_
  rintro e w1 ⟨rfl, rfl⟩
  go_wp2_with fail
  refine (claim _ _).mono ?_
  rintro e w1 ⟨rfl, rfl⟩
  go_wp2_with fail
  have S := St.of_three T
  clear T TE
  refine (zy1 S n1 n1 s0 s1 (by omega) (by omega) (by omega) (by omega) a0 a1 (by omega) (by omega)).mono ?_
  clear S
  rintro e w1 ⟨rfl, S⟩
  go_wp2_with fail
  refine (zy2 S n2 (n1 + n2) s0 s1 (by omega) (by omega) (by omega) (by omega) b0 b1 (by omega) (by omega)).mono ?_
  clear S
  rintro e w2 ⟨rfl, S⟩
  go_wp2_with fail
  refine (rel1 S n2 s0 s1 (by omega) (by omega) (by omega) (by omega) (by omega) (by omega)).mono ?_
  clear S
  rintro e w3 ⟨rfl, S⟩
  go_wp2_with fail
  refine (held1 S).mono ?_
  rintro e w4 ⟨rfl, rfl⟩
  go_wp2_with fail
  refine (held2 S).mono ?_
  rintro e w4 ⟨rfl, rfl⟩
  go_wp2_with fail
  refine (heldB S).mono ?_
  rintro e w4 ⟨rfl, rfl⟩
  go_wp2_with fail
  refine (zy1 S (s - n2) s s0 s1 (by omega) (by omega) (by omega) (by omega) (by omega) (by omega) (by omega) (by omega)).mono ?_
  clear S
  rintro e w5 ⟨rfl, S⟩
  go_wp2_with fail
  refine (held1 S).mono ?_
  rintro e w6 ⟨rfl, rfl⟩
  go_wp2_with fail
  refine (heldB S).mono ?_
  rintro e w6 ⟨rfl, rfl⟩
  go_wp2_with fail
  go_ret
  exact ⟨by simp, S.grown⟩

set_option maxRecDepth 100000 in
set_option maxHeartbeats 1600000 in
theorem law1_yn (s n1 n2 : Int) (w : World) (s0 : 0 ≤ s) (s1 : s ≤ 4611686018427387904) (a0 : 0 ≤ n1) (a1 : n1 ≤ 4611686018427387904) (b0 : 0 ≤ n2) (b1 : n2 ≤ 4611686018427387904)
    (y1 : n1 ≤ s) (y2 : s - n1 < n2) :
    Calls Try.prog 3 #[.int .i64 s, .int .i64 n1, .int .i64 n2] w fun e w' => e = .returned (.bool true) ∧ Grown w w' := by
  have T := three s w
  have TE := T.ne
  go_enter Try.func3, Try.ntmps3
  go_wp2_with fail
  refine (newBudget _ _).mono ?_
  rintro e w1 ⟨rfl, rfl⟩
  go_wp2_with fail
  refine (claim _ _).mono ?_
  rintro e w1 ⟨rfl, rfl⟩
  go_wp2_with fail
  refine (claim _ _).mono ?_
  rintro e w1 ⟨rfl, rfl⟩
  go_wp2_with fail
  have S := St.of_three T
  clear T TE
  refine (zy1 S n1 n1 s0 s1 (by omega) (by omega) (by omega) (by omega) a0 a1 (by omega) (by omega)).mono ?_
  clear S
  rintro e w1 ⟨rfl, S⟩
  go_wp2_with fail
  refine (zn2 S n2 s0 s1 (by omega) (by omega) (by omega) (by omega) b0 b1 (by omega)).mono ?_
  clear S
  rintro e w2 ⟨rfl, S⟩
  go_wp2_with fail
  refine (rel1 S 0 s0 s1 (by omega) (by omega) (by omega) (by omega) (by omega) (by omega)).mono ?_
  clear S
  rintro e w3 ⟨rfl, S⟩
  go_wp2_with fail
  refine (held1 S).mono ?_
  rintro e w4 ⟨rfl, rfl⟩
  go_wp2_with fail
  refine (held2 S).mono ?_
  rintro e w4 ⟨rfl, rfl⟩
  go_wp2_with fail
  refine (heldB S).mono ?_
  rintro e w4 ⟨rfl, rfl⟩
  go_wp2_with fail
  refine (zy1 S s s s0 s1 (by omega) (by omega) (by omega) (by omega) (by omega) (by omega) (by omega) (by omega)).mono ?_
  clear S
  rintro e w5 ⟨rfl, S⟩
  go_wp2_with fail
  refine (held1 S).mono ?_
  rintro e w6 ⟨rfl, rfl⟩
  go_wp2_with fail
  refine (heldB S).mono ?_
  rintro e w6 ⟨rfl, rfl⟩
  go_wp2_with fail
  go_ret
  exact ⟨by simp, S.grown⟩

set_option maxRecDepth 100000 in
set_option maxHeartbeats 1600000 in
theorem law1_ny (s n1 n2 : Int) (w : World) (s0 : 0 ≤ s) (s1 : s ≤ 4611686018427387904) (a0 : 0 ≤ n1) (a1 : n1 ≤ 4611686018427387904) (b0 : 0 ≤ n2) (b1 : n2 ≤ 4611686018427387904)
    (y1 : s < n1) (y2 : n2 ≤ s) :
    Calls Try.prog 3 #[.int .i64 s, .int .i64 n1, .int .i64 n2] w fun e w' => e = .returned (.bool true) ∧ Grown w w' := by
  have T := three s w
  have TE := T.ne
  go_enter Try.func3, Try.ntmps3
  go_wp2_with fail
  refine (newBudget _ _).mono ?_
  rintro e w1 ⟨rfl, rfl⟩
  go_wp2_with fail
  refine (claim _ _).mono ?_
  rintro e w1 ⟨rfl, rfl⟩
  go_wp2_with fail
  refine (claim _ _).mono ?_
  rintro e w1 ⟨rfl, rfl⟩
  go_wp2_with fail
  have S := St.of_three T
  clear T TE
  refine (zn1 S n1 s0 s1 (by omega) (by omega) (by omega) (by omega) a0 a1 (by omega)).mono ?_
  clear S
  rintro e w1 ⟨rfl, S⟩
  go_wp2_with fail
  refine (zy2 S n2 n2 s0 s1 (by omega) (by omega) (by omega) (by omega) b0 b1 (by omega) (by omega)).mono ?_
  clear S
  rintro e w2 ⟨rfl, S⟩
  go_wp2_with fail
  refine (rel1 S n2 s0 s1 (by omega) (by omega) (by omega) (by omega) (by omega) (by omega)).mono ?_
  clear S
  rintro e w3 ⟨rfl, S⟩
  go_wp2_with fail
  refine (held1 S).mono ?_
  rintro e w4 ⟨rfl, rfl⟩
  go_wp2_with fail
  refine (held2 S).mono ?_
  rintro e w4 ⟨rfl, rfl⟩
  go_wp2_with fail
  refine (heldB S).mono ?_
  rintro e w4 ⟨rfl, rfl⟩
  go_wp2_with fail
  refine (zy1 S (s - n2) s s0 s1 (by omega) (by omega) (by omega) (by omega) (by omega) (by omega) (by omega) (by omega)).mono ?_
  clear S
  rintro e w5 ⟨rfl, S⟩
  go_wp2_with fail
  refine (held1 S).mono ?_
  rintro e w6 ⟨rfl, rfl⟩
  go_wp2_with fail
  refine (heldB S).mono ?_
  rintro e w6 ⟨rfl, rfl⟩
  go_wp2_with fail
  go_ret
  exact ⟨by simp, S.grown⟩

set_option maxRecDepth 100000 in
set_option maxHeartbeats 1600000 in
theorem law1_nn (s n1 n2 : Int) (w : World) (s0 : 0 ≤ s) (s1 : s ≤ 4611686018427387904) (a0 : 0 ≤ n1) (a1 : n1 ≤ 4611686018427387904) (b0 : 0 ≤ n2) (b1 : n2 ≤ 4611686018427387904)
    (y1 : s < n1) (y2 : s < n2) :
    Calls Try.prog 3 #[.int .i64 s, .int .i64 n1, .int .i64 n2] w fun e w' => e = .returned (.bool true) ∧ Grown w w' := by
  have T := three s w
  have TE := T.ne
  go_enter Try.func3, Try.ntmps3
  go_wp2_with fail
  refine (newBudget _ _).mono ?_
  rintro e w1 ⟨rfl, rfl⟩
  go_wp2_with fail
  refine (claim _ _).mono ?_
  rintro e w1 ⟨rfl, rfl⟩
  go_wp2_with fail
  refine (claim _ _).mono ?_
  rintro e w1 ⟨rfl, rfl⟩
  go_wp2_with fail
  have S := St.of_three T
  clear T TE
  refine (zn1 S n1 s0 s1 (by omega) (by omega) (by omega) (by omega) a0 a1 (by omega)).mono ?_
  clear S
  rintro e w1 ⟨rfl, S⟩
  go_wp2_with fail
  refine (zn2 S n2 s0 s1 (by omega) (by omega) (by omega) (by omega) b0 b1 (by omega)).mono ?_
  clear S
  rintro e w2 ⟨rfl, S⟩
  go_wp2_with fail
  refine (rel1 S 0 s0 s1 (by omega) (by omega) (by omega) (by omega) (by omega) (by omega)).mono ?_
  clear S
  rintro e w3 ⟨rfl, S⟩
  go_wp2_with fail
  refine (held1 S).mono ?_
  rintro e w4 ⟨rfl, rfl⟩
  go_wp2_with fail
  refine (held2 S).mono ?_
  rintro e w4 ⟨rfl, rfl⟩
  go_wp2_with fail
  refine (heldB S).mono ?_
  rintro e w4 ⟨rfl, rfl⟩
  go_wp2_with fail
  refine (zy1 S s s s0 s1 (by omega) (by omega) (by omega) (by omega) (by omega) (by omega) (by omega) (by omega)).mono ?_
  clear S
  rintro e w5 ⟨rfl, S⟩
  go_wp2_with fail
  refine (held1 S).mono ?_
  rintro e w6 ⟨rfl, rfl⟩
  go_wp2_with fail
  refine (heldB S).mono ?_
  rintro e w6 ⟨rfl, rfl⟩
  go_wp2_with fail
  go_ret
  exact ⟨by simp, S.grown⟩

theorem law1 (s n1 n2 : Int) (w : World) : Calls Try.prog 3 #[.int .i64 s, .int .i64 n1, .int .i64 n2] w fun e w' => e = .returned (.bool true) ∧ Grown w w' := by
  by_cases g : 0 ≤ s ∧ s ≤ 4611686018427387904 ∧ 0 ≤ n1 ∧ n1 ≤ 4611686018427387904 ∧ 0 ≤ n2 ∧ n2 ≤ 4611686018427387904
  · obtain ⟨s0, s1, a0, a1, b0, b1⟩ := g
    by_cases y1 : n1 ≤ s
    · by_cases y2 : n2 ≤ s - n1
      · exact law1_yy s n1 n2 w s0 s1 a0 a1 b0 b1 y1 y2
      · exact law1_yn s n1 n2 w s0 s1 a0 a1 b0 b1 y1 (by omega)
    · by_cases y2 : n2 ≤ s
      · exact law1_ny s n1 n2 w s0 s1 a0 a1 b0 b1 (by omega) y2
      · exact law1_nn s n1 n2 w s0 s1 a0 a1 b0 b1 (by omega) (by omega)
  · exact law1_bad s n1 n2 w (by omega)

end Go.Proofs.Qxb6604758a
