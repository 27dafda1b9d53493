import Derived.Test.Qxb6003464aBase
namespace Go.Proofs.Qxb6003464a
open Go.RowKit
set_option linter.unusedVariables false

set_option maxHeartbeats 400000 in
set_option maxRecDepth 1000000 in
theorem row_nil (c : Nat) (w : World) : Calls Try.prog 12 #[.slice none 0 c] w fun e w' => e = .returned (.slice none 0 0) ∧ w' = w := by
  have he := fun W => Lib.run_eql_slice_nil (P := Try.prog) W 22 23 none 0 c 0 0 Try.underlying22
  go_enter Try.func12, Try.ntmps12
  go_wp2
  go_ret
  exact ⟨rfl, rfl⟩

set_option maxHeartbeats 800000 in
set_option maxRecDepth 1000000 in
theorem row_some (x : Addr) (len cap : Nat) (f : Nat → Int) (w : World) (h20 : len ≤ 1048576) (hin : Ints .i8 w (.slice (some x) len cap) len f) :
    Calls Try.prog 12 #[.slice (some x) len cap] w fun e w' => ∃ v, e = .returned v ∧ Tight .i8 w' v len f ∧ Bel w.heap.size w w' := by
  have hmk := run_make_row' (P := Try.prog) 22 23 (.int .i8 0) 1 Try.underlying22 Try.info23 rfl .i64 .i64 len (by omega) (by omega)
  have he := fun W => Lib.run_eql_slice_nil (P := Try.prog) W 22 23 (some x) len cap 0 0 Try.underlying22
  go_enter Try.func12, Try.ntmps12
  go_wp2
  clear hmk he
  go_loopg [4] len (fun k c wr => ∃ j, k = len - j ∧ j ≤ len ∧ c = .int .i64 j ∧ wr.rowIs w.heap.size 23 len (part .i8 f j) ∧ Bel w.heap.size w wr)
  case atStart =>
    refine ⟨0, rfl, Nat.zero_le _, rfl, (World.rowIs_made w _ _ _).congr (fun i hi => by simp [part]), (Bel.refl _ _).alloc (Nat.le_refl _) _⟩
  case round =>
    obtain ⟨j, hk, hj, rfl, hrow, hbel⟩ := hrel
    by_cases hlt : j < len
    · obtain ⟨a, c, hv, hi⟩ := hin
      obtain ⟨b, off, ha, hb, hc⟩ := hi j hlt
      simp only [Value.slice.injEq] at hv
      obtain ⟨rfl, -, rfl⟩ := hv
      simp only [Option.some.injEq] at ha
      subst ha
      have hcj : wr.cell? ⟨b, off + j, none⟩ = some (.int .i8 (f j)) := (hbel.cell (by exact hb)).trans hc
      have hcn := hrow.cell hlt
      have hfn := hrow.frozen j
      have HS := part_step hrow
      have HB := hbel.setCell (p := ⟨w.heap.size, j, none⟩) (Nat.le_refl _) (.int .i8 (f j))
      clear hrow hbel hc hi
      go_wp2
      go_roundg (len - (j + 1))
      case measure => omega
      case rel => exact ⟨j + 1, rfl, by omega, by go_num, HS, HB⟩
    · obtain rfl : j = len := by omega
      go_wp2
      go_ret
      exact ⟨_, rfl, tight_of_row hrow, hbel⟩

theorem row_any (v : Value) (len : Nat) (f : Nat → Int) (w : World) (h20 : len ≤ 1048576) (hin : Ints .i8 w v len f) :
    Calls Try.prog 12 #[v] w fun e w' => ∃ v, e = .returned v ∧ Tight .i8 w' v len f ∧ Bel w.heap.size w w' := by
  have hin' := hin
  obtain ⟨a, c, rfl, hi⟩ := hin'
  cases a with
  | some x => exact row_some x len c f w h20 hin
  | none =>
    have h0 : len = 0 := by
      rcases Nat.eq_zero_or_pos len with h | h
      · exact h
      · obtain ⟨b, off, ha, _⟩ := hi 0 h
        cases ha
    subst h0
    refine (row_nil c w).mono ?_
    rintro e w' ⟨rfl, rfl⟩
    exact ⟨_, rfl, ⟨⟨none, 0, rfl, fun i hi => absurd hi (Nat.not_lt_zero _)⟩, none, rfl, .inl rfl⟩, Bel.refl _ _⟩

set_option maxHeartbeats 400000 in
set_option maxRecDepth 1000000 in
theorem ints_nil (c : Nat) (w : World) : Calls Try.prog 24 #[.slice none 0 c] w fun e w' => e = .returned (.slice none 0 0) ∧ w' = w := by
  have he := fun W => Lib.run_eql_slice_nil (P := Try.prog) W 39 3 none 0 c 0 0 Try.underlying39
  go_enter Try.func24, Try.ntmps24
  go_wp2
  go_ret
  exact ⟨rfl, rfl⟩

set_option maxHeartbeats 800000 in
set_option maxRecDepth 1000000 in
theorem ints_some (x : Addr) (len cap : Nat) (f : Nat → Int) (w : World) (h20 : len ≤ 1048576) (hin : Ints .i64 w (.slice (some x) len cap) len f) :
    Calls Try.prog 24 #[.slice (some x) len cap] w fun e w' => ∃ v, e = .returned v ∧ Tight .i64 w' v len f ∧ Bel w.heap.size w w' := by
  have hmk := run_make_row' (P := Try.prog) 39 3 (.int .i64 0) 8 Try.underlying39 Try.info3 rfl .i64 .i64 len (by omega) (by omega)
  have he := fun W => Lib.run_eql_slice_nil (P := Try.prog) W 39 3 (some x) len cap 0 0 Try.underlying39
  go_enter Try.func24, Try.ntmps24
  go_wp2
  clear hmk he
  go_loopg [4] len (fun k c wr => ∃ j, k = len - j ∧ j ≤ len ∧ c = .int .i64 j ∧ wr.rowIs w.heap.size 3 len (part .i64 f j) ∧ Bel w.heap.size w wr)
  case atStart =>
    refine ⟨0, rfl, Nat.zero_le _, rfl, (World.rowIs_made w _ _ _).congr (fun i hi => by simp [part]), (Bel.refl _ _).alloc (Nat.le_refl _) _⟩
  case round =>
    obtain ⟨j, hk, hj, rfl, hrow, hbel⟩ := hrel
    by_cases hlt : j < len
    · obtain ⟨a, c, hv, hi⟩ := hin
      obtain ⟨b, off, ha, hb, hc⟩ := hi j hlt
      simp only [Value.slice.injEq] at hv
      obtain ⟨rfl, -, rfl⟩ := hv
      simp only [Option.some.injEq] at ha
      subst ha
      have hcj : wr.cell? ⟨b, off + j, none⟩ = some (.int .i64 (f j)) := (hbel.cell (by exact hb)).trans hc
      have hcn := hrow.cell hlt
      have hfn := hrow.frozen j
      have HS := part_step hrow
      have HB := hbel.setCell (p := ⟨w.heap.size, j, none⟩) (Nat.le_refl _) (.int .i64 (f j))
      clear hrow hbel hc hi
      go_wp2
      go_roundg (len - (j + 1))
      case measure => omega
      case rel => exact ⟨j + 1, rfl, by omega, by go_num, HS, HB⟩
    · obtain rfl : j = len := by omega
      go_wp2
      go_ret
      exact ⟨_, rfl, tight_of_row hrow, hbel⟩

theorem ints_any (v : Value) (len : Nat) (f : Nat → Int) (w : World) (h20 : len ≤ 1048576) (hin : Ints .i64 w v len f) :
    Calls Try.prog 24 #[v] w fun e w' => ∃ v, e = .returned v ∧ Tight .i64 w' v len f ∧ Bel w.heap.size w w' := by
  have hin' := hin
  obtain ⟨a, c, rfl, hi⟩ := hin'
  cases a with
  | some x => exact ints_some x len c f w h20 hin
  | none =>
    have h0 : len = 0 := by
      rcases Nat.eq_zero_or_pos len with h | h
      · exact h
      · obtain ⟨b, off, ha, _⟩ := hi 0 h
        cases ha
    subst h0
    refine (ints_nil c w).mono ?_
    rintro e w' ⟨rfl, rfl⟩
    exact ⟨_, rfl, ⟨⟨none, 0, rfl, fun i hi => absurd hi (Nat.not_lt_zero _)⟩, none, rfl, .inl rfl⟩, Bel.refl _ _⟩

end Go.Proofs.Qxb6003464a
