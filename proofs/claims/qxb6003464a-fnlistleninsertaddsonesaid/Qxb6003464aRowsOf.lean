import Derived.Test.Qxb6003464aClone
namespace Go.Proofs.Qxb6003464a
open Go.RowKit
set_option linter.unusedVariables false

/-- A slice of R slices of int8, row r of L r elements, that can be read. -/
def Rows8 (w : World) (v : Value) (R : Nat) (L : Nat → Nat) : Prop :=
  ∃ b off c, v = .slice (some ⟨b, off, none⟩) R c ∧ b < w.heap.size ∧ ∀ r, r < R → ∃ x f, w.cell? ⟨b, off + r, none⟩ = some x ∧ Ints .i8 w x (L r) f

theorem Rows8.carry {w w' : World} {v : Value} {R : Nat} {L : Nat → Nat} (h : Rows8 w v R L) (hb : Bel w.heap.size w w') : Rows8 w' v R L := by
  obtain ⟨b, off, c, hv, hlt, hr⟩ := h
  refine ⟨b, off, c, hv, Nat.lt_of_lt_of_le hlt hb.size, fun r hr' => ?_⟩
  obtain ⟨x, f, hc, hi⟩ := hr r hr'
  exact ⟨x, f, (hb.cell (by exact hlt)).trans hc, hi.carry hb⟩

/-- The rows that the call itself has copied: block O. -/
def Own8 (w : World) (O R : Nat) (L : Nat → Nat) (j : Nat) : Prop :=
  ∃ g, w.rowIs O 22 R g ∧ (∀ r, r < R → ∃ a l c, g r = .slice a l c) ∧ ∀ r, r < j → ∃ f, Tight .i8 w (g r) (L r) f

theorem Own8.rows {w : World} {O R : Nat} {L : Nat → Nat} (h : Own8 w O R L R) : Rows8 w (.slice (some ⟨O, 0, none⟩) R R) R L := by
  obtain ⟨g, hg, hs, ht⟩ := h
  refine ⟨O, 0, R, rfl, hg.lt, fun r hr => ?_⟩
  obtain ⟨f, hf⟩ := ht r hr
  exact ⟨g r, f, by rw [Nat.zero_add]; exact hg.cell hr, hf.1⟩

theorem Own8.carry {w w' : World} {O R j : Nat} {L : Nat → Nat} (h : Own8 w O R L j) (hb : Bel w.heap.size w w') : Own8 w' O R L j := by
  obtain ⟨g, hg, hs, ht⟩ := h
  refine ⟨g, hg.of_block (hb.block O hg.lt), hs, fun r hr => ?_⟩
  obtain ⟨f, hf⟩ := ht r hr
  exact ⟨f, hf.carry hb⟩

/-- A row of slices holds no integer. -/
theorem no_int {w : World} {O R m : Nat} {t : TypeId} {g : Nat → Value} {k : IntKind} {z : Int} (hO : w.rowIs O t R g) (hg : ∀ r, r < R → ∃ a l c, g r = .slice a l c)
    (h : w.cell? ⟨O, m, none⟩ = some (.int k z)) : False := by
  obtain ⟨c, hb, hn, hc⟩ := hO
  simp [World.cell?, hb] at h
  by_cases hm : m < R
  · rw [hc m hm] at h
    obtain ⟨a, l, c', e⟩ := hg m hm
    rw [e] at h
    simp at h
  · rw [Array.getElem?_eq_none (by omega)] at h
    simp at h

/-- A slice of integers whose cells are found lies in another block than a row of slices. -/
theorem Ints.setRow {k : IntKind} {w : World} {v : Value} {n : Nat} {f : Nat → Int} (h : Ints k w v n f) {O R i : Nat} {t : TypeId} {g : Nat → Value} (hO : w.rowIs O t R g)
    (hg : ∀ r, r < R → ∃ a l c, g r = .slice a l c) (u : Value) : Ints k (w.setCell ⟨O, i, none⟩ u) v n f := by
  obtain ⟨a, c, rfl, hi⟩ := h
  refine ⟨a, c, rfl, fun j hj => ?_⟩
  obtain ⟨b, off, rfl, hlt, hc⟩ := hi j hj
  refine ⟨b, off, rfl, by simpa [World.setCell] using hlt, ?_⟩
  by_cases hb : b = O
  · exfalso
    subst hb
    exact no_int hO hg hc
  · refine (World.cell?_setCell_other _ ⟨O, i, none⟩ ⟨b, off + j, none⟩ _ ?_).trans hc
    intro e
    injection e with e1
    exact hb e1.symm

/-- One more row is stored. -/
theorem Own8.store {w : World} {O R j : Nat} {L : Nat → Nat} (h : Own8 w O R L j) {v : Value} {f : Nat → Int} (hv : Tight .i8 w v (L j) f) :
    Own8 (w.setCell ⟨O, j, none⟩ v) O R L (j + 1) := by
  obtain ⟨g, hg, hs, ht⟩ := h
  refine ⟨_, hg.set j v, fun r hr => ?_, fun r hr => ?_⟩
  · by_cases e : r = j
    · subst e
      obtain ⟨a, ha, _⟩ := hv.2
      exact ⟨a, _, _, by simpa using ha⟩
    · obtain ⟨a, l, c, e2⟩ := hs r hr
      exact ⟨a, l, c, by simpa [e] using e2⟩
  · by_cases e : r = j
    · subst e
      refine ⟨f, ?_⟩
      rw [if_pos rfl]
      exact ⟨hv.1.setRow hg hs v, hv.2⟩
    · obtain ⟨f', hf'⟩ := ht r (by omega)
      refine ⟨f', ?_⟩
      rw [if_neg e]
      exact ⟨hf'.1.setRow hg hs v, hf'.2⟩

set_option maxHeartbeats 800000 in
set_option maxRecDepth 1000000 in
theorem rows_any (v : Value) (R : Nat) (L : Nat → Nat) (w : World) (h20 : R ≤ 1048576) (hL : ∀ r, r < R → L r ≤ 1048576) (hin : Rows8 w v R L) :
    Calls Try.prog 23 #[v] w fun e w' => e = .returned (.slice (some ⟨w.heap.size, 0, none⟩) R R) ∧ Own8 w' w.heap.size R L R ∧ Bel w.heap.size w w' := by
  obtain ⟨b, off, c, rfl, hb, hr⟩ := hin
  have hmk := run_make_row' (P := Try.prog) 38 22 (.slice none 0 0) 24 Try.underlying38 Try.info22 rfl .i64 .i64 R (by omega) (by omega)
  have he := fun W => Lib.run_eql_slice_nil (P := Try.prog) W 38 22 (some ⟨b, off, none⟩) R c 0 0 Try.underlying38
  go_enter Try.func23, Try.ntmps23
  go_wp2
  clear hmk he
  go_loopg [4] R (fun k i wr => ∃ j, k = R - j ∧ j ≤ R ∧ i = .int .i64 j ∧ Own8 wr w.heap.size R L j ∧ Bel w.heap.size w wr)
  case atStart =>
    exact ⟨0, rfl, Nat.zero_le _, rfl, ⟨_, World.rowIs_made w _ _ _, fun r hr => ⟨none, 0, 0, rfl⟩, fun r hr => absurd hr (Nat.not_lt_zero _)⟩, (Bel.refl _ _).alloc (Nat.le_refl _) _⟩
  case round =>
    obtain ⟨j, hk, hj, rfl, hown, hbel⟩ := hrel
    by_cases hlt : j < R
    · obtain ⟨x, f, hx, hi⟩ := hr j hlt
      have hxc : wr.cell? ⟨b, off + j, none⟩ = some x := (hbel.cell (by exact hb)).trans hx
      have hi' := hi.carry hbel
      have hLj := hL j hlt
      obtain ⟨xa, xc, rfl, _⟩ := hi
      go_wp2_with fail
      refine (row_any _ (L j) f wr hLj hi').mono ?_
      rintro e w1 ⟨v1, rfl, ht, hb1⟩
      have hown1 := hown.carry hb1
      have hbel1 := hbel.trans (hb1.mono hbel.size)
      have HO := hown1.store ht
      have HB := hbel1.setCell (p := ⟨w.heap.size, j, none⟩) (Nat.le_refl _) v1
      obtain ⟨g1, hg1, hs1, ht1⟩ := hown1
      have hcn := hg1.cell hlt
      have hfn := hg1.frozen j
      obtain ⟨va, rfl, _⟩ := ht.2
      clear hg1 hs1 ht1 hown hbel hi' hxc hx hb1 hbel1 ht
      go_wp2
      go_roundg (R - (j + 1))
      case measure => omega
      case rel => exact ⟨j + 1, rfl, by omega, by go_num, HO, HB⟩
    · obtain rfl : j = R := by omega
      go_wp2
      go_ret
      exact ⟨rfl, hown, hbel⟩

end Go.Proofs.Qxb6003464a
