import Derived.Test.Qxb6003464aCount
namespace Go.Proofs.Qxb6003464a
open Go.RowKit
set_option linter.unusedVariables false
set_option linter.unusedSimpArgs false

/-- The ends behind count from c on, the sum starting at n0. -/
def counted (L : Nat → Nat) (E : Nat → Int) (n0 : Int) (c j : Nat) (i : Nat) : Int := if c ≤ i ∧ i < j then n0 + ((S L (i + 1) : Int) - (S L c : Int)) else E i

theorem counted_step (L : Nat → Nat) (E : Nat → Int) (n0 : Int) (c j : Nat) (hcj : c ≤ j) (i : Nat) :
    counted L E n0 c (j + 1) i = if i = j then n0 + ((S L j : Int) - (S L c : Int)) + (L j : Int) else counted L E n0 c j i := by
  unfold counted
  by_cases e : i = j
  · subst e
    rw [if_pos ⟨hcj, by omega⟩, if_pos rfl]
    show n0 + (((S L i + L i : Nat) : Int) - (S L c : Int)) = _
    omega
  · rw [if_neg e]
    by_cases h : c ≤ i ∧ i < j
    · rw [if_pos h, if_pos ⟨h.1, by omega⟩]
    · rw [if_neg h, if_neg (by omega)]

set_option maxHeartbeats 800000 in
set_option maxRecDepth 1000000 in
theorem count_any (l C R c : Nat) (L : Nat → Nat) (E : Nat → Int) (n0 : Int) (w : World) (h20 : R ≤ 1048576) (hS : S L R ≤ 2097152) (hc : c ≤ R) (hn : start E c = n0) (hn0 : 0 ≤ n0) (hn1 : n0 ≤ 2097152) (h : Lst w l C R L E) :
    Calls Try.prog 43 #[.pointer (some ⟨l, 0, none⟩), .int .i64 c] w fun e w' => e = .returned (.tuple #[]) ∧ Lst w' l C R L (counted L E n0 c R) ∧ OnlyAt C w w' := by
  have ST := start_any l C R c L E w h20 hc h
  rw [hn] at ST
  have HST : Hid (Calls Try.prog 45 #[.pointer (some ⟨l, 0, none⟩), .int .i64 c] w fun e w' => e = .returned (.int .i64 n0) ∧ w' = w) := ST
  clear ST hn
  go_enter Try.func43, Try.ntmps43
  go_wp2_with fail
  refine (HST.out).mono ?_
  clear HST
  rintro e w ⟨rfl, rfl⟩
  go_wp2_with fail
  go_loopg [1, 4] (R - c) (fun k ci ni wr => ∃ j, k = R - j ∧ c ≤ j ∧ j ≤ R ∧ ci = .int .i64 j ∧ ni = .int .i64 (n0 + ((S L j : Int) - (S L c : Int))) ∧ Lst wr l C R L (counted L E n0 c j) ∧ OnlyAt C w wr)
  case atStart =>
    refine ⟨c, rfl, Nat.le_refl _, hc, rfl, by go_num, ⟨h.head, h.ne, h.chunks.congr (fun i hi => ?_)⟩, OnlyAt.refl _ _⟩
    unfold counted
    rw [if_neg (by omega)]
  case round =>
    obtain ⟨j, hk, hcj, hj, rfl, rfl, hl, ho⟩ := hrel
    have hd := hl.head
    have hm1 := S_mono L hcj
    have hm2 := S_mono L hj
    by_cases hlt : j < R
    · obtain ⟨a, ac, hit⟩ := hl.chunks.item hlt
      have hen := hl.chunks.end' hlt
      have hfr := hl.chunks.free (R := R) (i := 0) (j * 4 + 1)
      have hm3 := S_mono L (show j + 1 ≤ R by omega)
      have hm4 : S L (j + 1) = S L j + L j := rfl
      have hLj : L j ≤ 2097152 := by omega
      have hsum : (S L j : Int) + (L j : Int) ≤ 2097152 := by omega
      have HC := hl.chunks.setEnd hlt (n0 + ((S L j : Int) - (S L c : Int)) + (L j : Int)) (fun i _ => counted_step L E n0 c j hcj i)
      have HO := ho.set (j * 4 + 1) (.int .i64 (n0 + ((S L j : Int) - (S L c : Int)) + (L j : Int)))
      have hne := hl.ne
      have HL : Lst (wr.setCell ⟨C, j * 4 + 1, none⟩ (.int .i64 (n0 + ((S L j : Int) - (S L c : Int)) + (L j : Int)))) l C R L (counted L E n0 c (j + 1)) :=
        ⟨(World.cell?_setCell_other _ ⟨C, j * 4 + 1, none⟩ ⟨l, 0, none⟩ _ (fun e => by injection e with e1; exact hne e1.symm)).trans hd, hne, HC⟩
      have HS : Hid ((S L (j + 1) : Int) = (S L j : Int) + (L j : Int)) := by show ((S L (j + 1) : Nat) : Int) = _; rw [hm4]; omega
      clear hl ho HC hm4 hm3
      go_wp2
      go_roundg (R - (j + 1))
      case measure => omega
      case rel => exact ⟨j + 1, rfl, by omega, by omega, by go_num, by rw [HS.out]; go_num, HL, HO⟩
    · obtain rfl : j = R := by omega
      go_wp2
      go_end0
      exact ⟨rfl, hl, ho⟩

set_option maxHeartbeats 400000 in
set_option maxRecDepth 1000000 in
theorem listCount_any (l C R c : Nat) (L : Nat → Nat) (E : Nat → Int) (n0 : Int) (w : World) (h20 : R ≤ 1048576) (hS : S L R ≤ 2097152) (hc : c ≤ R) (hn : start E c = n0) (hn0 : 0 ≤ n0) (hn1 : n0 ≤ 2097152) (h : Lst w l C R L E) :
    Calls Try.prog 27 #[.pointer (some ⟨l, 0, none⟩), .int .i64 c] w fun e w' => e = .returned (.tuple #[]) ∧ Lst w' l C R L (counted L E n0 c R) ∧ OnlyAt C w w' := by
  have CT := count_any l C R c L E n0 w h20 hS hc hn hn0 hn1 h
  have HCT : Hid (Calls Try.prog 43 #[.pointer (some ⟨l, 0, none⟩), .int .i64 c] w fun e w' => e = .returned (.tuple #[]) ∧ Lst w' l C R L (counted L E n0 c R) ∧ OnlyAt C w w') := CT
  clear CT hn
  go_enter Try.func27, Try.ntmps27
  go_wp2_with fail
  refine (HCT.out).mono ?_
  rintro e w1 ⟨rfl, hl, ho⟩
  go_wp2
  go_end0
  exact ⟨rfl, hl, ho⟩

set_option maxHeartbeats 400000 in
set_option maxRecDepth 1000000 in
theorem newList_any (C R : Nat) (L : Nat → Nat) (E : Nat → Int) (w : World) (h : Chunks w C R L E R) :
    Calls Try.prog 25 #[.slice (some ⟨C, 0, none⟩) R R, .int .i64 64] w fun e w' => e = .returned (.pointer (some ⟨w.heap.size, 0, none⟩)) ∧ Lst w' w.heap.size C R L E ∧ Bel w.heap.size w w' := by
  have hlt : C < w.heap.size := by obtain ⟨g, hg, _⟩ := h; exact hg.lt
  have HB := (Bel.refl w.heap.size w).alloc (Nat.le_refl _) (.cells #[.slice (some ⟨C, 0, none⟩) R R, .int .i64 64] 71)
  have HC := h.carry HB
  go_enter Try.func25, Try.ntmps25
  go_wp2
  go_ret
  exact ⟨rfl, ⟨by simp, by omega, HC⟩, HB⟩

set_option maxHeartbeats 400000 in
set_option maxRecDepth 1000000 in
theorem len_any (l C R : Nat) (L : Nat → Nat) (E : Nat → Int) (w : World) (h20 : R < 1048576) (h : Lst w l C (R + 1) L E) :
    Calls Try.prog 44 #[.pointer (some ⟨l, 0, none⟩)] w fun e w' => e = .returned (.int .i64 (E R)) ∧ ∃ n, w' = w.drewN n := by
  have h0 := h.head
  have he := h.chunks.end' (i := R) (by omega)
  have h1 : (((R + 1 : Nat) : Int) == 0) = false := by simp; omega
  have h2 : (((R + 1 : Nat) : Int) - 1) = (R : Int) := by omega
  have h3 : (R : Int) < ((R + 1 : Nat) : Int) := by omega
  go_enter Try.func44, Try.ntmps44
  go_wp2_with fail
  go_quiet (fail)
  go_wp2
  go_ret
  exact ⟨rfl, _, rfl⟩

set_option maxHeartbeats 400000 in
set_option maxRecDepth 1000000 in
theorem listLen_any (l C R : Nat) (L : Nat → Nat) (E : Nat → Int) (w : World) (h20 : R < 1048576) (h : Lst w l C (R + 1) L E) :
    Calls Try.prog 28 #[.pointer (some ⟨l, 0, none⟩)] w fun e w' => e = .returned (.int .i64 (E R)) ∧ ∃ n, w' = w.drewN n := by
  have HL : Hid (Calls Try.prog 44 #[.pointer (some ⟨l, 0, none⟩)] w fun e w' => e = .returned (.int .i64 (E R)) ∧ ∃ n, w' = w.drewN n) := len_any l C R L E w h20 h
  go_enter Try.func28, Try.ntmps28
  go_wp2_with fail
  refine (HL.out).mono ?_
  rintro e w1 ⟨rfl, n, rfl⟩
  go_wp2
  go_ret
  exact ⟨rfl, n, rfl⟩

set_option maxHeartbeats 400000 in
set_option maxRecDepth 1000000 in
theorem listChunk_any (l C R j : Nat) (L : Nat → Nat) (E : Nat → Int) (w : World) (h20 : R ≤ 1048576) (hj : j < R) (h : Lst w l C R L E) :
    Calls Try.prog 37 #[.pointer (some ⟨l, 0, none⟩), .int .i64 j] w fun e w' => e = .returned (.pointer (some ⟨C, j * 4, none⟩)) ∧ w' = w := by
  have h0 := h.head
  go_enter Try.func37, Try.ntmps37
  go_wp2
  go_ret
  exact ⟨rfl, rfl⟩

set_option maxHeartbeats 400000 in
set_option maxRecDepth 1000000 in
theorem chunkEnd_any (C R j : Nat) (L : Nat → Nat) (E : Nat → Int) (w : World) (hj : j < R) (h : Chunks w C R L E R) :
    Calls Try.prog 17 #[.pointer (some ⟨C, j * 4, none⟩)] w fun e w' => e = .returned (.int .i64 (E j)) ∧ w' = w := by
  have he := h.end' hj
  go_enter Try.func17, Try.ntmps17
  go_wp2
  go_ret
  exact ⟨rfl, rfl⟩

set_option maxHeartbeats 800000 in
set_option maxRecDepth 1000000 in
theorem ends_any (l C R : Nat) (L : Nat → Nat) (E : Nat → Int) (w : World) (h20 : R ≤ 1048576) (h : Lst w l C R L E) :
    Calls Try.prog 30 #[.pointer (some ⟨l, 0, none⟩), .int .i64 R] w fun e w' => ∃ v, e = .returned v ∧ Ints .i64 w' v R E ∧ Bel w.heap.size w w' := by
  have hmk := run_make_row' (P := Try.prog) 39 3 (.int .i64 0) 8 Try.underlying39 Try.info3 rfl .i64 .i64 R (by omega) (by omega)
  go_enter Try.func30, Try.ntmps30
  go_wp2_with fail
  clear hmk
  go_loopg [6] R (fun k i wr => ∃ j, k = R - j ∧ j ≤ R ∧ i = .int .i64 j ∧ wr.rowIs w.heap.size 3 R (part .i64 E j) ∧ Bel w.heap.size w wr)
  case atStart =>
    exact ⟨0, rfl, Nat.zero_le _, rfl, (World.rowIs_made w _ _ _).congr (fun i hi => by simp [part]), (Bel.refl _ _).alloc (Nat.le_refl _) _⟩
  case round =>
    obtain ⟨j, hk, hj, rfl, hrow, hbel⟩ := hrel
    by_cases hlt : j < R
    · have hl' := h.carry hbel
      have hcn := hrow.cell hlt
      have hfn := hrow.frozen j
      have HS := part_step hrow
      have HB := hbel.setCell (p := ⟨w.heap.size, j, none⟩) (Nat.le_refl _) (.int .i64 (E j))
      clear hrow hbel
      go_wp2_with fail
      refine (listChunk_any l C R j L E wr h20 hlt hl').mono ?_
      rintro e wr ⟨rfl, rfl⟩
      go_wp2_with fail
      refine (chunkEnd_any C R j L E wr hlt hl'.chunks).mono ?_
      rintro e wr ⟨rfl, rfl⟩
      go_wp2
      go_roundg (R - (j + 1))
      case measure => omega
      case rel => exact ⟨j + 1, rfl, by omega, by go_num, HS, HB⟩
    · obtain rfl : j = R := by omega
      go_wp2
      go_ret
      exact ⟨_, rfl, (tight_of_row hrow).1, hbel⟩

end Go.Proofs.Qxb6003464a
