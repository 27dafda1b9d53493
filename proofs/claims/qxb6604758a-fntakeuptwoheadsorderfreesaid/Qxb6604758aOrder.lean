import Derived.Test.Qxb6604758aRead
import Derived.Deep.LoopGhost
import Derived.Deep.OwnRows
import Derived.Lib.SliceRun
/-
  Two heads in either order leave the same index; the copy of a slice of bytes; the bound on the lengths.
-/
namespace Go.Proofs.Qxb6604758a
open Go.RowKit
set_option linter.unusedVariables false
set_option linter.unusedSimpArgs false

theorem step_comm (s : Idx) (x y : Key × Int) : step (step s x) y = step (step s y) x := by
  obtain ⟨F, N⟩ := s
  obtain ⟨k, v⟩ := x
  obtain ⟨k', v'⟩ := y
  by_cases hk : k' = k
  · subst hk
    refine Prod.ext ?_ ?_
    · funext z
      by_cases hz : z = k'
      · simp [step, stepF, upd, hz]; omega
      · simp [step, stepF, upd, hz]
    · simp [step, stepN, stepF, upd]
  · have hk' : k ≠ k' := fun e => hk e.symm
    refine Prod.ext ?_ ?_
    · funext z
      by_cases hz : z = k
      · subst hz
        simp [step, stepF, upd, hk, hk']
      · by_cases hz' : z = k'
        · subst hz'
          simp [step, stepF, upd, hk, hz]
        · simp [step, stepF, upd, hz, hz']
    · simp only [step, stepN, stepF, upd, hk, hk', if_false]
      cases (F k).isSome <;> cases (F k').isSome <;> simp

theorem run_step : ∀ (ys : List (Key × Int)) (s : Idx) (x : Key × Int), run (step s x) ys = step (run s ys) x
  | [], s, x => rfl
  | y :: ys, s, x => by
    show run (step (step s x) y) ys = step (run (step s y) ys) x
    rw [step_comm, run_step ys]

theorem run_swap : ∀ (xs ys : List (Key × Int)) (s : Idx), run (run s xs) ys = run (run s ys) xs
  | [], ys, s => rfl
  | x :: xs, ys, s => by
    show run (run (step s x) xs) ys = run (step (run s ys) x) xs
    rw [run_swap xs ys, run_step]

/-- How many entries a head can bear. -/
theorem ents_len : ∀ (n : Nat) (l : List UInt8), (ents n l).1.length ≤ l.length
  | 0, l => by simp [ents]
  | n + 1, l => by
    unfold ents
    cases hd : dec 0 0 l with
    | none => simp
    | some vk =>
      obtain ⟨V, k⟩ := vk
      obtain ⟨a0, a1, _, _⟩ := dec_le _ 0 0 _ _ hd
      simp only
      split
      · simp
      · cases hd2 : dec 0 0 (l.drop (k + V.toNat)) with
        | none => simp
        | some vk2 =>
          obtain ⟨v, k2⟩ := vk2
          obtain ⟨b0, b1, _, _⟩ := dec_le _ 0 0 _ _ hd2
          have := ents_len n (l.drop (k + V.toNat + k2))
          simp only [List.length_drop, List.length_cons] at *
          omega

theorem heads_len (l : List UInt8) : (heads l).1.length ≤ l.length := by
  unfold heads
  cases hd : dec 0 0 (l.drop 1) with
  | none => simp
  | some vk =>
    have := ents_len vk.1.toNat (l.drop (1 + vk.2))
    simp only [List.length_drop] at this
    simp only
    omega

theorem run_le : ∀ (es : List (Key × Int)) (s : Idx), (run s es).2 ≤ s.2 + es.length
  | [], s => by simp [run]
  | e :: es, s => by
    have h := run_le es (step s e)
    have := stepN_le s.1 e.1 s.2
    show (run (step s e) es).2 ≤ _
    simp only [step, List.length_cons] at *
    omega

/-! ### the copy -/
theorem Try.info5' : (Try.prog.info? 5).map (fun i => (i.zero, i.size, i.bytes)) = some (some (.int .u8 0), 1, 1) := by kernel_rfl

/-- What the copy holds behind k rounds. -/
def part (zs : List Int) (k : Nat) (i : Nat) : Value := if i < k then .int .u8 (zs.getD i 0) else .int .u8 0

theorem part_step {w : World} {B n k : Nat} {zs : List Int} (h : w.rowIs B 5 n (part zs k)) :
    (w.setCell ⟨B, k, none⟩ (.int .u8 (zs.getD k 0))).rowIs B 5 n (part zs (k + 1)) := by
  refine (h.set k _).congr fun i hi => ?_
  unfold part
  by_cases h1 : i = k
  · subst h1; simp
  · rw [if_neg h1]
    by_cases h2 : i < k
    · rw [if_pos h2, if_pos (by omega)]
    · rw [if_neg h2, if_neg (by omega)]

set_option maxHeartbeats 800000 in
set_option maxRecDepth 1000000 in
theorem clone_some (x : Addr) (len cap : Nat) (zs : List Int) (w : World) (hl : len ≤ zs.length) (h20 : len ≤ 1048576)
    (hcell : ∀ i, i < zs.length → w.cell? (x.add i) = some (.int .u8 (zs.getD i 0))) :
    Calls Try.prog 13 #[.slice (some x) len cap] w fun e w' => e = .returned (.slice (some ⟨w.heap.size, 0, none⟩) len len) ∧
      w'.rowIs w.heap.size 5 len (fun i => .int .u8 (zs.getD i 0)) ∧ Below w.heap.size w w' ∧ w'.heap.size = w.heap.size + 1 := by
  have hmk := run_make_row' (P := Try.prog) 31 5 (.int .u8 0) 1 Try.underlying31 Try.info5' rfl .i64 .i64 len (by omega) (by omega)
  have he := fun W => Lib.run_eql_slice_nil (P := Try.prog) W 31 5 (some x) len cap 0 0 Try.underlying31
  go_enter Try.func13, Try.ntmps13
  go_wp2
  clear hmk he
  go_loopg [4] len (fun k c wr => ∃ j, k = len - j ∧ j ≤ len ∧ c = .int .i64 j ∧ wr.rowIs w.heap.size 5 len (part zs j) ∧ Below w.heap.size w wr ∧ wr.heap.size = w.heap.size + 1)
  case atStart => 
    refine ⟨0, rfl, Nat.zero_le _, rfl, (World.rowIs_made w _ _ _).congr (fun i hi => by simp [part]), (Below.refl _ _).alloc (Nat.le_refl _) _, by simp⟩
  case round =>
    obtain ⟨j, hk, hj, rfl, hrow, hbel, hsz⟩ := hrel
    by_cases hlt : j < len
    · obtain ⟨b, off, rfl, hc⟩ := ints_at hcell (by omega)
      have hb : b < w.heap.size := World.block_lt_of_cell? _ _ (hc j (by omega))
      have hcj : wr.cell? ⟨b, off + j, none⟩ = some (.int .u8 (zs.getD j 0)) := (hbel.cell (by exact hb)).trans (hc j (by omega))
      have hcn := hrow.cell hlt
      have hfn := hrow.frozen j
      have HS := part_step hrow
      have HB := hbel.setCell (p := ⟨w.heap.size, j, none⟩) (Nat.le_refl _) (.int .u8 (zs.getD j 0))
      clear hrow hcell hbel hc
      go_wp2
      go_roundg (len - (j + 1))
      case measure => omega
      case rel => exact ⟨j + 1, rfl, by omega, by go_num, HS, HB, by simpa [World.setCell] using hsz⟩
    · obtain rfl : j = len := by omega
      go_wp2
      go_ret
      exact ⟨rfl, hrow.congr (fun i hi => by simp [part, hi]), hbel, hsz⟩

/-- The bytes of a row of numbers. -/
def bytesOf (zs : List Int) (len : Nat) : List UInt8 := (zs.take len).map fun z => UInt8.ofNat z.toNat

/-- zzCopyBytes, of a slice that is not empty. -/
theorem copyBytes (x : Addr) (len cap : Nat) (zs : List Int) (w : World) (hl : len ≤ zs.length) (h20 : len ≤ 1048576)
    (hcell : ∀ i, i < zs.length → w.cell? (x.add i) = some (.int .u8 (zs.getD i 0))) (hwf : ∀ n ∈ zs, (Lit.int .u8 n).wf = true) :
    Calls Try.prog 13 #[.slice (some x) len cap] w fun e w' => e = .returned (.slice (some ⟨w.heap.size, 0, none⟩) len len) ∧
      Cells w' w.heap.size 0 (bytesOf zs len) ∧ Low w.heap.size w w' ∧ w'.heap.size = w.heap.size + 1 := by
  refine (clone_some x len cap zs w hl h20 hcell).mono ?_
  rintro e w' ⟨rfl, hrow, hbel, hsz⟩
  refine ⟨rfl, fun j hj => ?_, ⟨hbel.os, hbel.output, hbel.size, hbel.block⟩, hsz⟩
  have hjl : j < len := by simp [bytesOf] at hj; omega
  rw [Nat.zero_add, hrow.cell hjl]
  have h1 : (bytesOf zs len).getD j 0 = UInt8.ofNat (zs.getD j 0).toNat := by
    simp only [bytesOf, List.getD_eq_getElem?_getD, List.getElem?_map, List.getElem?_take, if_pos hjl]
    rw [List.getElem?_eq_getElem (by omega)]
    rfl
  have h2 : 0 ≤ zs.getD j 0 ∧ zs.getD j 0 ≤ 255 := by
    have := hwf (zs.getD j 0) (by rw [List.getD_eq_getElem?_getD, List.getElem?_eq_getElem (by omega)]; exact List.getElem_mem _)
    simpa [Lit.wf, IntKind.min, IntKind.max, IntKind.bits, IntKind.signed] using this
  rw [h1]
  congr 2
  simp only [UInt8.toNat_ofNat']
  omega

theorem bytesOf_len {zs : List Int} {len : Nat} (h : len ≤ zs.length) : (bytesOf zs len).length = len := by simp [bytesOf]; omega

end Go.Proofs.Qxb6604758a
