import Derived.Test.Qxb6604758aHold
namespace Go.Proofs.Qxb6604758a
open Go.RowKit
open Go.MuLone
set_option linter.unusedVariables false

set_option maxRecDepth 100000 in
set_option maxHeartbeats 400000 in
theorem hold_down (b c : Nat) (size H h n : Int) (first : Bool) (w : World) (hbc : ¬ b = c) (hcb : ¬ c = b)
    (hb : Bud b size H w) (hc : Clm c b h w)
    (s0 : 0 ≤ size) (s1 : size ≤ 4611686018427387904) (H0 : 0 ≤ H) (H1 : H ≤ 4611686018427387904)
    (h0 : 0 ≤ h) (h1 : h ≤ 4611686018427387904) (n0 : 0 ≤ n) (n1 : n ≤ 4611686018427387904)
    (hyes : n - h ≤ size - H) (hdn : n < h) :
    Calls Try.prog 21 #[.pointer (some ⟨c, 0, none⟩), .int .i64 n, .bool first] w fun e w' => e = .returned (.bool true) ∧ Bud b size (H + (n - h)) w' ∧ Clm c b n w' ∧ Kept b c w w' := by
  obtain ⟨b0, b1, b3, b4, b6, bf⟩ := hb
  obtain ⟨k0, k1, kf⟩ := hc
  have hd : decide (size - H < n - h) = false := by simpa using hyes
  go_enter_defers Try.func21, Try.ntmps21
  go_wp2_with (go_at_call 26; refine (lock_free Try.muLib ⟨b, 1, none⟩ _ b1 (bf 1)).mono ?_; rintro e w' ⟨rfl, rfl⟩)
  go_quiet (fail)
  go_wp2
  go_quiet (fail)
  go_wp2_with fail
  refine (notify_nil b 4 _ ?_ ?_ ?_).mono ?_
  · go_simp
  · go_simp
  · go_simp
  rintro e w' ⟨rfl, rfl⟩
  go_wp2
  refine leaves_cons (f := 27) (args := #[.pointer (some ⟨b, 1, none⟩)]) (by simp) (by simp [go_sem]) ?_
  refine (unlock_deferred Try.muLib ⟨b, 1, none⟩ .returning _ ?_ ?_).mono ?_
  · go_simp
  · go_simp
  rintro e u' w'' ⟨rfl, rfl, rfl⟩
  refine ⟨_, results_tmp rfl _ _ _, rfl, ⟨?_, ?_, ?_, ?_, ?_, ?_⟩, ⟨?_, ?_, ?_⟩, ?_⟩
  all_goals try (go_simp; done)
  · rw [World.cell?_setCell_other _ ⟨b, 1, none⟩ ⟨b, 4, none⟩ _ (by simp)]
    exact World.cell?_setCell_same _ ⟨b, 4, none⟩ _ (u := .int .i32 1) (by go_simp)
  repeat (first | (with_reducible refine Kept.setb ?_ _ _) | (with_reducible refine Kept.setc ?_ _ _) | (with_reducible refine Kept.drewN ?_ _))
  exact Kept.refl _ _ _

end Go.Proofs.Qxb6604758a
