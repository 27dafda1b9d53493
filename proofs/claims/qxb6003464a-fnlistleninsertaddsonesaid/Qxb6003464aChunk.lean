import Derived.Test.Qxb6003464aRowsOf
namespace Go.Proofs.Qxb6003464a
open Go.RowKit
set_option linter.unusedVariables false

theorem Try.info68 : (Try.prog.info? 68).map (fun i => (i.zero, i.size, i.bytes)) = some (some (.agg #[.string ⟨#[]⟩, .string ⟨#[]⟩, .int .u64 0, .int .u64 0, .int .i64 0, .pointer none, .pointer none, .int .i8 0]), 8, 80) := by kernel_rfl
theorem Try.info28 : (Try.prog.info? 28).map (fun i => (i.zero, i.size, i.bytes)) = some (some (.agg #[.slice none 0 0, .int .i64 0, .int .i8 0, .bool false]), 4, 40) := by kernel_rfl

/-- The world in ZZNewChunk's loop: the result's variable, the row of slots, old memory. -/
structure Fresh (w : World) (n : Nat) (wr : World) : Prop where
  res : ∃ g, wr.rowIs w.heap.size 28 4 g
  items : ∃ g, wr.rowIs (w.heap.size + 1) 68 (n * 8) g
  bel : Bel w.heap.size w wr

theorem fresh0 (w : World) (n : Nat) (cs : Array Value) (h : cs.size = 8) :
    Fresh w n ((w.alloc (.cells #[.slice none 0 0, .int .i64 0, .int .i8 0, .bool false] 28)).alloc (.cells (madeCells cs (n * 8)) 68)) := by
  refine ⟨?_, ?_, ((Bel.refl _ _).alloc (Nat.le_refl _) _).alloc (by simp) _⟩
  · refine ⟨fun i => #[Value.slice none 0 0, .int .i64 0, .int .i8 0, .bool false].getD i (.bool false), (World.rowIs_alloc w _ 28 _ (fun i hi => ?_)).alloc _⟩
    match i, hi with
    | 0, _ => rfl
    | 1, _ => rfl
    | 2, _ => rfl
    | 3, _ => rfl
  · refine ⟨fun i => (madeCells cs (n * 8)).getD i (.bool false), ?_⟩
    have h1 := World.rowIs_alloc (w.alloc (.cells #[.slice none 0 0, .int .i64 0, .int .i8 0, .bool false] 28)) (madeCells cs (n * 8)) 68 (fun i => (madeCells cs (n * 8)).getD i (.bool false)) (fun i hi => by simp [Array.getD, hi])
    rw [size_madeCells] at h1
    simpa using h1

theorem Fresh.set {w wr : World} {n : Nat} (h : Fresh w n wr) (i : Nat) (v : Value) : Fresh w n (wr.setCell ⟨w.heap.size + 1, i, none⟩ v) := by
  obtain ⟨g, hg⟩ := h.items
  obtain ⟨r, hr⟩ := h.res
  exact ⟨⟨r, hr.setOther (by simp) v⟩, ⟨_, hg.set i v⟩, h.bel.setCell (by simp) v⟩

set_option maxHeartbeats 800000 in
set_option maxRecDepth 1000000 in
theorem chunk_any (v : Value) (n : Nat) (f : Nat → Int) (en : Int) (w : World) (h20 : n ≤ 1048576) (hin : Ints .i8 w v n f) :
    Calls Try.prog 13 #[v, .int .i64 en, .int .i8 0, .bool false] w fun e w' => ∃ N, e = .returned (.agg #[.slice (some ⟨N, 0, none⟩) n n, .int .i64 en, .int .i8 0, .bool false]) ∧ Bel w.heap.size w w' := by
  obtain ⟨i0, hi, hz0, hz1, hz2⟩ := info_parts Try.info68
  obtain ⟨a, c, rfl, hc⟩ := hin
  have hmk := fun W => run_make (P := Try.prog) W 26 68 i0 _ Try.underlying26 hi hz0 .i64 .i64 (n : Int) (n : Int) (by omega) (Int.le_refl _) (by rw [hz2]; omega) (by omega)
  rw [hz1] at hmk
  go_enter Try.func13, Try.ntmps13
  go_wp2_with fail
  clear hmk
  go_loopg [10] n (fun k i wr => ∃ j, k = n - j ∧ j ≤ n ∧ i = .int .i64 j ∧ Fresh w n wr)
  case atStart => exact ⟨0, rfl, Nat.zero_le _, rfl, fresh0 w n _ rfl⟩
  case round =>
    obtain ⟨j, hk, hj, rfl, hF⟩ := hrel
    by_cases hlt : j < n
    · obtain ⟨b, off, rfl, hb, hcj⟩ := hc j hlt
      have hx : wr.cell? ⟨b, off + j, none⟩ = some (.int .i8 (f j)) := (hF.bel.cell (by exact hb)).trans hcj
      obtain ⟨g, hg⟩ := hF.items
      have hcn := hg.cell (i := j * 8 + 7) (by omega)
      have hfn := hg.frozen (j * 8 + 7)
      have HF := hF.set (j * 8 + 7) (.int .i8 (f j))
      clear hF hg hc
      go_wp2
      go_roundg (n - (j + 1))
      case measure => omega
      case rel => exact ⟨j + 1, rfl, by omega, by go_num, HF⟩
    · obtain rfl : j = n := by omega
      obtain ⟨g, hg⟩ := hF.items
      obtain ⟨gr, hgr⟩ := hF.res
      have c0 := hgr.cell (i := 0) (by omega)
      have c1 := hgr.cell (i := 1) (by omega)
      have c2 := hgr.cell (i := 2) (by omega)
      have c3 := hgr.cell (i := 3) (by omega)
      have f0 := hgr.frozen 0
      have f1 := hgr.frozen 1
      have f2 := hgr.frozen 2
      have f3 := hgr.frozen 3
      have HB := (((hF.bel.setCell (p := ⟨w.heap.size, 0, none⟩) (Nat.le_refl _) (.slice (some ⟨w.heap.size + 1, 0, none⟩) j j)).setCell (p := ⟨w.heap.size, 1, none⟩) (Nat.le_refl _) (.int .i64 en)).setCell (p := ⟨w.heap.size, 2, none⟩) (Nat.le_refl _) (.int .i8 0)).setCell (p := ⟨w.heap.size, 3, none⟩) (Nat.le_refl _) (.bool false)
      clear hg hgr hF
      go_wp2
      exact bodyPost_ret (v := .agg #[.slice (some ⟨w.heap.size + 1, 0, none⟩) j j, .int .i64 en, .int .i8 0, .bool false]) (by simp [results, Try.results13, go_sem, c0, c1, c2, c3]) rfl ⟨_, rfl, HB⟩
end Go.Proofs.Qxb6003464a
