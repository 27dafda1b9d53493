import Derived.Test.Qxb6604758aRows
import Derived.Test.Qxb6604758aLocks
import Derived.Conc.MuLone
import Derived.WalkKit
import Derived.Deep.QuietTactic
import Derived.BigQuiet
namespace Go.Proofs.Qxb6604758a
open Go.RowKit
open Go.MuLone
set_option linter.unusedVariables false

theorem run_neq_chan_nil {P : Program} (w : World) {t e : TypeId} {d : ChanDir} (h : P.underlying t = some (.chan d e)) :
    (binOp .neq t (.chan none) (.chan none)).run P w = .ok (.bool false) w := by
  have h0 : ∀ n : Nat, (Op.equalIn (n + 1) t (.chan none) (.chan none)).run P w = .ok true w := by
    intro n
    simp [Op.equalIn, run_underlying h]
  have h1 : (Op.equal t (.chan none) (.chan none)).run P w = .ok true w := h0 9999
  simp only [binOp]
  simp [h1]

set_option maxRecDepth 100000 in
set_option maxHeartbeats 400000 in
theorem notify_nil (b off : Nat) (w : World)
    (h0 : w.cell? ⟨b, off, none⟩ = some (.int .i32 0)) (h2 : w.cell? ⟨b, off + 2, none⟩ = some (.chan none))
    (f0 : w.frozen? ⟨b, off, none⟩ = false) :
    Calls Try.prog 28 #[.pointer (some ⟨b, off, none⟩)] w fun e w' => e = .returned (.tuple #[]) ∧
      w' = (w.setCell ⟨b, off, none⟩ (.int .i32 1)).setCell ⟨b, off, none⟩ (.int .i32 0) := by
  have hne : ∀ W, (binOp .neq 53 (.chan none) (.chan none)).run Try.prog W = .ok (.bool false) W := fun W => run_neq_chan_nil W Try.underlying53
  go_enter_defers Try.func28, Try.ntmps28
  go_wp2_with (go_at_call 26; refine (lock_free Try.muLib ⟨b, off, none⟩ _ h0 f0).mono ?_; rintro e w' ⟨rfl, rfl⟩)
  refine leaves_cons (f := 27) (args := #[.pointer (some ⟨b, off, none⟩)]) (by simp) (by simp [go_sem]) ?_
  refine (unlock_deferred Try.muLib ⟨b, off, none⟩ .returning _ ?_ ?_).mono ?_
  · exact World.cell?_setCell_same w ⟨b, off, none⟩ (.int .i32 1) h0
  · simp [f0]
  rintro e u' w'' ⟨rfl, rfl, rfl⟩
  exact ⟨_, results_none rfl _ _ _, rfl, rfl⟩

structure Bud (b : Nat) (size H : Int) (w : World) : Prop where
  c0 : w.cell? ⟨b, 0, none⟩ = some (.int .i64 size)
  c1 : w.cell? ⟨b, 1, none⟩ = some (.int .i32 0)
  c3 : w.cell? ⟨b, 3, none⟩ = some (.int .i64 H)
  c4 : w.cell? ⟨b, 4, none⟩ = some (.int .i32 0)
  c6 : w.cell? ⟨b, 6, none⟩ = some (.chan none)
  f : ∀ o, w.frozen? ⟨b, o, none⟩ = false

structure Clm (c b : Nat) (h : Int) (w : World) : Prop where
  c0 : w.cell? ⟨c, 0, none⟩ = some (.pointer (some ⟨b, 0, none⟩))
  c1 : w.cell? ⟨c, 1, none⟩ = some (.int .i64 h)
  f : ∀ o, w.frozen? ⟨c, o, none⟩ = false

/-- What a call of hold leaves alone: every block but the two. -/
structure Kept (b c : Nat) (w w' : World) : Prop where
  cell : ∀ k o, k ≠ b → k ≠ c → w'.cell? ⟨k, o, none⟩ = w.cell? ⟨k, o, none⟩
  frozen : ∀ a, w'.frozen? a = w.frozen? a
  grown : ∀ W, Grown W w → W.heap.size ≤ b → W.heap.size ≤ c → Grown W w'

theorem Kept.refl (b c : Nat) (w : World) : Kept b c w w := ⟨fun _ _ _ _ => rfl, fun _ => rfl, fun _ h _ _ => h⟩

theorem Kept.drewN {b c : Nat} {w w' : World} (h : Kept b c w w') (n : Nat) : Kept b c w (w'.drewN n) :=
  ⟨fun k o h1 h2 => h.cell k o h1 h2, fun a => h.frozen a, fun W g1 g2 g3 => h.grown W g1 g2 g3⟩

theorem Kept.setb {b c : Nat} {w w' : World} (h : Kept b c w w') (o : Nat) (v : Value) : Kept b c w (w'.setCell ⟨b, o, none⟩ v) :=
  ⟨fun k q h1 h2 => (World.cell?_setCell_other _ ⟨b, o, none⟩ ⟨k, q, none⟩ _ (fun e => by simp at e)).trans (h.cell k q h1 h2), fun a => (World.frozen?_setCell _ _ _ _).trans (h.frozen a),
    fun W g1 g2 g3 => (h.grown W g1 g2 g3).setCell g2 _⟩

theorem Kept.setc {b c : Nat} {w w' : World} (h : Kept b c w w') (o : Nat) (v : Value) : Kept b c w (w'.setCell ⟨c, o, none⟩ v) :=
  ⟨fun k q h1 h2 => (World.cell?_setCell_other _ ⟨c, o, none⟩ ⟨k, q, none⟩ _ (fun e => by simp at e)).trans (h.cell k q h1 h2), fun a => (World.frozen?_setCell _ _ _ _).trans (h.frozen a),
    fun W g1 g2 g3 => (h.grown W g1 g2 g3).setCell g3 _⟩

set_option maxRecDepth 100000 in
set_option maxHeartbeats 400000 in
theorem hold_no (b c : Nat) (size H h n : Int) (first : Bool) (w : World) (hbc : ¬ b = c) (hcb : ¬ c = b)
    (hb : Bud b size H w) (hc : Clm c b h w)
    (s0 : 0 ≤ size) (s1 : size ≤ 4611686018427387904) (H0 : 0 ≤ H) (H1 : H ≤ 4611686018427387904)
    (h0 : 0 ≤ h) (h1 : h ≤ 4611686018427387904) (n0 : 0 ≤ n) (n1 : n ≤ 4611686018427387904)
    (hno : size - H < n - h) (hf : first = false) :
    Calls Try.prog 21 #[.pointer (some ⟨c, 0, none⟩), .int .i64 n, .bool first] w fun e w' => e = .returned (.bool false) ∧ Bud b size H w' ∧ Clm c b h w' ∧ Kept b c w w' := by
  obtain ⟨b0, b1, b3, b4, b6, bf⟩ := hb
  obtain ⟨k0, k1, kf⟩ := hc
  subst hf
  have hd : decide (size - H < n - h) = true := by simpa using hno
  go_enter_defers Try.func21, Try.ntmps21
  go_wp2_with (go_at_call 26; refine (lock_free Try.muLib ⟨b, 1, none⟩ _ b1 (bf 1)).mono ?_; rintro e w' ⟨rfl, rfl⟩)
  go_quiet (fail)
  go_wp2
  go_quiet (fail)
  go_wp2
  refine leaves_cons (f := 27) (args := #[.pointer (some ⟨b, 1, none⟩)]) (by simp) (by simp [go_sem]) ?_
  refine (unlock_deferred Try.muLib ⟨b, 1, none⟩ .returning _ ?_ ?_).mono ?_
  · go_simp
  · go_simp
  rintro e u' w'' ⟨rfl, rfl, rfl⟩
  refine ⟨_, results_tmp rfl _ _ _, rfl, ⟨?_, ?_, ?_, ?_, ?_, ?_⟩, ⟨?_, ?_, ?_⟩, ((((Kept.refl b c w).setb _ _).drewN _).drewN _).setb _ _⟩ <;> go_simp

set_option maxRecDepth 100000 in
set_option maxHeartbeats 400000 in
theorem hold_up (b c : Nat) (size H h n : Int) (first : Bool) (w : World) (hbc : ¬ b = c) (hcb : ¬ c = b)
    (hb : Bud b size H w) (hc : Clm c b h w)
    (s0 : 0 ≤ size) (s1 : size ≤ 4611686018427387904) (H0 : 0 ≤ H) (H1 : H ≤ 4611686018427387904)
    (h0 : 0 ≤ h) (h1 : h ≤ 4611686018427387904) (n0 : 0 ≤ n) (n1 : n ≤ 4611686018427387904)
    (hyes : n - h ≤ size - H) (hup : h ≤ n) :
    Calls Try.prog 21 #[.pointer (some ⟨c, 0, none⟩), .int .i64 n, .bool first] w fun e w' => e = .returned (.bool true) ∧ Bud b size (H + (n - h)) w' ∧ Clm c b n w' ∧ Kept b c w w' := by
  obtain ⟨b0, b1, b3, b4, b6, bf⟩ := hb
  obtain ⟨k0, k1, kf⟩ := hc
  have hd : decide (size - H < n - h) = false := by simpa using hyes
  go_enter_defers Try.func21, Try.ntmps21
  go_wp2_with (go_at_call 26; refine (lock_free Try.muLib ⟨b, 1, none⟩ _ b1 (bf 1)).mono ?_; rintro e w' ⟨rfl, rfl⟩)
  go_quiet (fail)
  go_wp2
  go_quiet (fail)
  go_wp2
  refine leaves_cons (f := 27) (args := #[.pointer (some ⟨b, 1, none⟩)]) (by simp) (by simp [go_sem]) ?_
  refine (unlock_deferred Try.muLib ⟨b, 1, none⟩ .returning _ ?_ ?_).mono ?_
  · go_simp
  · go_simp
  rintro e u' w'' ⟨rfl, rfl, rfl⟩
  refine ⟨_, results_tmp rfl _ _ _, rfl, ⟨?_, ?_, ?_, ?_, ?_, ?_⟩, ⟨?_, ?_, ?_⟩, ?_⟩
  all_goals try go_simp
  exact (((((Kept.refl b c w).setb _ _).drewN _).setb _ _).setc _ _).setb _ _

end Go.Proofs.Qxb6604758a
