import Derived.Test.Qxb6604758aStart
namespace Go.Proofs.Qxb6604758a
open Go.RowKit
set_option linter.unusedVariables false

theorem hold_yes (b c : Nat) (size H h n : Int) (w : World) (hbc : ¬ b = c) (hcb : ¬ c = b)
    (hb : Bud b size H w) (hc : Clm c b h w)
    (s0 : 0 ≤ size) (s1 : size ≤ 4611686018427387904) (H0 : 0 ≤ H) (H1 : H ≤ 4611686018427387904)
    (h0 : 0 ≤ h) (h1 : h ≤ 4611686018427387904) (n0 : 0 ≤ n) (n1 : n ≤ 4611686018427387904)
    (hyes : n - h ≤ size - H) :
    Calls Try.prog 21 #[.pointer (some ⟨c, 0, none⟩), .int .i64 n, .bool false] w fun e w' => e = .returned (.bool true) ∧ Bud b size (H + (n - h)) w' ∧ Clm c b n w' ∧ Kept b c w w' := by
  by_cases hup : h ≤ n
  · exact hold_up b c size H h n false w hbc hcb hb hc s0 s1 H0 H1 h0 h1 n0 n1 hyes hup
  · exact hold_down b c size H h n false w hbc hcb hb hc s0 s1 H0 H1 h0 h1 n0 n1 hyes (by omega)

/-- A claim that a call of hold at another one leaves alone. -/
theorem Clm.kept {c b k : Nat} {h : Int} {w w' : World} (hc : Clm c b h w) (hk : Kept b k w w') (h1 : c ≠ b) (h2 : c ≠ k) : Clm c b h w' :=
  ⟨(hk.cell c 0 h1 h2).trans hc.c0, (hk.cell c 1 h1 h2).trans hc.c1, fun o => (hk.frozen _).trans (hc.f o)⟩

/-- The state of the three: the budget and its two claims, over the entry world's size. -/
structure St (size H h1 h2 : Int) (w W : World) : Prop where
  bud : Bud w.heap.size size H W
  c1 : Clm (w.heap.size + 1) w.heap.size h1 W
  c2 : Clm (w.heap.size + 2) w.heap.size h2 W
  grown : Grown w W

theorem St.of_three {size : Int} {w W : World} (h : Three size w W) : St size 0 0 0 w W := ⟨h.bud, h.c1, h.c2, h.grown⟩

theorem st_yes1 {size H h1 h2 : Int} {w W : World} (S : St size H h1 h2 w W) (n : Int)
    (s0 : 0 ≤ size) (s1 : size ≤ 4611686018427387904) (H0 : 0 ≤ H) (H1 : H ≤ 4611686018427387904)
    (h0 : 0 ≤ h1) (h1' : h1 ≤ 4611686018427387904) (n0 : 0 ≤ n) (n1 : n ≤ 4611686018427387904) (hyes : n - h1 ≤ size - H) :
    Calls Try.prog 21 #[.pointer (some ⟨w.heap.size + 1, 0, none⟩), .int .i64 n, .bool false] W fun e w' => e = .returned (.bool true) ∧ St size (H + (n - h1)) n h2 w w' := by
  refine (hold_yes _ _ size H h1 n W (by omega) (by omega) S.bud S.c1 s0 s1 H0 H1 h0 h1' n0 n1 hyes).mono ?_
  rintro e w' ⟨he, hb, hc, hk⟩
  exact ⟨he, hb, hc, S.c2.kept hk (by omega) (by omega), hk.grown _ S.grown (by omega) (by omega)⟩

theorem st_yes2 {size H h1 h2 : Int} {w W : World} (S : St size H h1 h2 w W) (n : Int)
    (s0 : 0 ≤ size) (s1 : size ≤ 4611686018427387904) (H0 : 0 ≤ H) (H1 : H ≤ 4611686018427387904)
    (h0 : 0 ≤ h2) (h1' : h2 ≤ 4611686018427387904) (n0 : 0 ≤ n) (n1 : n ≤ 4611686018427387904) (hyes : n - h2 ≤ size - H) :
    Calls Try.prog 21 #[.pointer (some ⟨w.heap.size + 2, 0, none⟩), .int .i64 n, .bool false] W fun e w' => e = .returned (.bool true) ∧ St size (H + (n - h2)) h1 n w w' := by
  refine (hold_yes _ _ size H h2 n W (by omega) (by omega) S.bud S.c2 s0 s1 H0 H1 h0 h1' n0 n1 hyes).mono ?_
  rintro e w' ⟨he, hb, hc, hk⟩
  exact ⟨he, hb, S.c1.kept hk (by omega) (by omega), hc, hk.grown _ S.grown (by omega) (by omega)⟩

theorem st_no1 {size H h1 h2 : Int} {w W : World} (S : St size H h1 h2 w W) (n : Int)
    (s0 : 0 ≤ size) (s1 : size ≤ 4611686018427387904) (H0 : 0 ≤ H) (H1 : H ≤ 4611686018427387904)
    (h0 : 0 ≤ h1) (h1' : h1 ≤ 4611686018427387904) (n0 : 0 ≤ n) (n1 : n ≤ 4611686018427387904) (hno : size - H < n - h1) :
    Calls Try.prog 21 #[.pointer (some ⟨w.heap.size + 1, 0, none⟩), .int .i64 n, .bool false] W fun e w' => e = .returned (.bool false) ∧ St size H h1 h2 w w' := by
  refine (hold_no _ _ size H h1 n false W (by omega) (by omega) S.bud S.c1 s0 s1 H0 H1 h0 h1' n0 n1 hno rfl).mono ?_
  rintro e w' ⟨he, hb, hc, hk⟩
  exact ⟨he, hb, hc, S.c2.kept hk (by omega) (by omega), hk.grown _ S.grown (by omega) (by omega)⟩

theorem st_no2 {size H h1 h2 : Int} {w W : World} (S : St size H h1 h2 w W) (n : Int)
    (s0 : 0 ≤ size) (s1 : size ≤ 4611686018427387904) (H0 : 0 ≤ H) (H1 : H ≤ 4611686018427387904)
    (h0 : 0 ≤ h2) (h1' : h2 ≤ 4611686018427387904) (n0 : 0 ≤ n) (n1 : n ≤ 4611686018427387904) (hno : size - H < n - h2) :
    Calls Try.prog 21 #[.pointer (some ⟨w.heap.size + 2, 0, none⟩), .int .i64 n, .bool false] W fun e w' => e = .returned (.bool false) ∧ St size H h1 h2 w w' := by
  refine (hold_no _ _ size H h2 n false W (by omega) (by omega) S.bud S.c2 s0 s1 H0 H1 h0 h1' n0 n1 hno rfl).mono ?_
  rintro e w' ⟨he, hb, hc, hk⟩
  exact ⟨he, hb, S.c1.kept hk (by omega) (by omega), hc, hk.grown _ S.grown (by omega) (by omega)⟩

theorem st_first {size : Int} {w W : World} (S : St size 0 0 0 w W) (n : Int)
    (s0 : 0 ≤ size) (s1 : size ≤ 4611686018427387904) (n0 : 0 ≤ n) (n1 : n ≤ 4611686018427387904) :
    Calls Try.prog 21 #[.pointer (some ⟨w.heap.size + 1, 0, none⟩), .int .i64 n, .bool true] W fun e w' => e = .returned (.bool true) ∧ St size n n 0 w w' := by
  have e0 : (0 : Int) + (n - 0) = n := by omega
  by_cases hle : n ≤ size
  · refine (hold_up _ _ size 0 0 n true W (by omega) (by omega) S.bud S.c1 s0 s1 (by omega) (by omega) (by omega) (by omega) n0 n1 (by omega) (by omega)).mono ?_
    rintro e w' ⟨he, hb, hc, hk⟩
    rw [e0] at hb
    exact ⟨he, hb, hc, S.c2.kept hk (by omega) (by omega), hk.grown _ S.grown (by omega) (by omega)⟩
  · refine (hold_first _ _ size 0 0 n W (by omega) (by omega) S.bud S.c1 s0 s1 (by omega) (by omega) (by omega) (by omega) n0 n1 (by omega) (by omega) (by omega) rfl).mono ?_
    rintro e w' ⟨he, hb, hc, hk⟩
    rw [e0] at hb
    exact ⟨he, hb, hc, S.c2.kept hk (by omega) (by omega), hk.grown _ S.grown (by omega) (by omega)⟩

end Go.Proofs.Qxb6604758a
