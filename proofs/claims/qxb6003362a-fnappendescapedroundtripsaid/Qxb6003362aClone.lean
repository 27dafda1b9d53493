import Derived.Test.Qxb6003362aRows
import Derived.WalkKit
import Derived.Deep.LoopGhost
import Derived.Deep.OwnRows
import Derived.OpenShut
import Derived.Lib.SliceRun
namespace Go.Proofs.Qxb6003362a
open Go.RowKit
set_option linter.unusedVariables false

theorem Try.info5' : (Try.prog.info? 5).map (fun i => (i.zero, i.size, i.bytes)) = some (some (.int .u8 0), 1, 1) := by kernel_rfl

set_option maxHeartbeats 400000 in
set_option maxRecDepth 1000000 in
theorem clone_nil (w : World) : Calls Try.prog 6 #[.slice none 0 0] w fun e w' => e = .returned (.slice none 0 0) ∧ w' = w := by
  have he := fun W => Lib.run_eql_slice_nil (P := Try.prog) W 22 5 none 0 0 0 0 Try.underlying22
  go_enter Try.func6, Try.ntmps6
  go_wp2
  go_ret
  exact ⟨rfl, rfl⟩

/-- What the copy holds behind k rounds. -/
def part (zs : List Int) (k : Nat) (i : Nat) : Value := if i < k then .int .u8 (zs.getD i 0) else .int .u8 0

theorem part_step {w : World} {B n k : Nat} {zs : List Int} (h : w.rowIs B 5 n (part zs k)) :
    (w.setCell ⟨B, k, none⟩ (.int .u8 (zs.getD k 0))).rowIs B 5 n (part zs (k + 1)) := by
  refine (h.set k _).congr fun i hi => ?_
  unfold part
  by_cases h1 : i = k
  · subst h1; simp
  · rw [if_neg h1]
    by_cases h2 : i < k
    · rw [if_pos h2, if_pos (by omega)]
    · rw [if_neg h2, if_neg (by omega)]

set_option maxHeartbeats 800000 in
set_option maxRecDepth 1000000 in
theorem clone_some (x : Addr) (len cap : Nat) (zs : List Int) (w : World) (hl : len ≤ zs.length) (h20 : len ≤ 1048576)
    (hcell : ∀ i, i < zs.length → w.cell? (x.add i) = some (.int .u8 (zs.getD i 0))) :
    Calls Try.prog 6 #[.slice (some x) len cap] w fun e w' => e = .returned (.slice (some ⟨w.heap.size, 0, none⟩) len len) ∧
      w'.rowIs w.heap.size 5 len (fun i => .int .u8 (zs.getD i 0)) ∧ Below w.heap.size w w' ∧ w'.heap.size = w.heap.size + 1 := by
  have hmk := run_make_row' (P := Try.prog) 22 5 (.int .u8 0) 1 Try.underlying22 Try.info5' rfl .i64 .i64 len (by omega) (by omega)
  have he := fun W => Lib.run_eql_slice_nil (P := Try.prog) W 22 5 (some x) len cap 0 0 Try.underlying22
  go_enter Try.func6, Try.ntmps6
  go_wp2
  clear hmk he
  go_loopg [4] len (fun k c wr => ∃ j, k = len - j ∧ j ≤ len ∧ c = .int .i64 j ∧ wr.rowIs w.heap.size 5 len (part zs j) ∧ Below w.heap.size w wr ∧ wr.heap.size = w.heap.size + 1)
  case atStart => 
    refine ⟨0, rfl, Nat.zero_le _, rfl, (World.rowIs_made w _ _ _).congr (fun i hi => by simp [part]), (Below.refl _ _).alloc (Nat.le_refl _) _, by simp⟩
  case round =>
    obtain ⟨j, hk, hj, rfl, hrow, hbel, hsz⟩ := hrel
    by_cases hlt : j < len
    · obtain ⟨b, off, rfl, hc⟩ := ints_at hcell (by omega)
      have hb : b < w.heap.size := World.block_lt_of_cell? _ _ (hc j (by omega))
      have hcj : wr.cell? ⟨b, off + j, none⟩ = some (.int .u8 (zs.getD j 0)) := (hbel.cell (by exact hb)).trans (hc j (by omega))
      have hcn := hrow.cell hlt
      have hfn := hrow.frozen j
      have HS := part_step hrow
      have HB := hbel.setCell (p := ⟨w.heap.size, j, none⟩) (Nat.le_refl _) (.int .u8 (zs.getD j 0))
      clear hrow hcell hbel hc
      go_wp2
      go_roundg (len - (j + 1))
      case measure => omega
      case rel => exact ⟨j + 1, rfl, by omega, by go_num, HS, HB, by simpa [World.setCell] using hsz⟩
    · obtain rfl : j = len := by omega
      go_wp2
      go_ret
      exact ⟨rfl, hrow.congr (fun i hi => by simp [part, hi]), hbel, hsz⟩

end Go.Proofs.Qxb6003362a
