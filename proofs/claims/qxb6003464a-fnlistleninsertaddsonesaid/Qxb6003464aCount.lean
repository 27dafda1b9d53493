import Derived.Test.Qxb6003464aBuild
namespace Go.Proofs.Qxb6003464a
open Go.RowKit
set_option linter.unusedVariables false
set_option linter.unusedSimpArgs false

/-- The sum of the first i lengths. -/
def S (L : Nat → Nat) : Nat → Nat
  | 0 => 0
  | i + 1 => S L i + L i

theorem S_mono (L : Nat → Nat) {i j : Nat} (h : i ≤ j) : S L i ≤ S L j := by
  induction j with
  | zero => have : i = 0 := by omega
            subst this; exact Nat.le_refl _
  | succ j ih =>
    by_cases e : i = j + 1
    · subst e; exact Nat.le_refl _
    · have := ih (by omega)
      show S L i ≤ S L j + L j
      omega

/-- Only block C has turned. -/
structure OnlyAt (C : Nat) (w w' : World) : Prop where
  os : w'.os = w.os
  output : w'.output = w.output
  size : w'.heap.size = w.heap.size
  block : ∀ k, k ≠ C → w'.heap[k]? = w.heap[k]?

theorem OnlyAt.refl (C : Nat) (w : World) : OnlyAt C w w := ⟨rfl, rfl, rfl, fun _ _ => rfl⟩
theorem OnlyAt.set {C : Nat} {w w' : World} (h : OnlyAt C w w') (i : Nat) (v : Value) : OnlyAt C w (w'.setCell ⟨C, i, none⟩ v) :=
  ⟨h.os, h.output, by simpa [World.setCell] using h.size, fun k hk => (Below.heap_setCell _ _ _ _ (by simpa using hk)).trans (h.block k hk)⟩
theorem OnlyAt.bel {C B : Nat} {w w' : World} (h : OnlyAt C w w') (hB : B ≤ C) : Bel B w w' := ⟨h.os, h.output, Nat.le_of_eq h.size.symm, fun k hk => h.block k (by omega)⟩
theorem OnlyAt.cell {C : Nat} {w w' : World} (h : OnlyAt C w w') {p : Addr} (hp : p.block ≠ C) : w'.cell? p = w.cell? p := World.cell?_of_block (w := w) (h.block p.block hp)

/-- A list at block l over the chunks of block C. -/
structure Lst (w : World) (l C R : Nat) (L : Nat → Nat) (E : Nat → Int) : Prop where
  head : w.cell? ⟨l, 0, none⟩ = some (.slice (some ⟨C, 0, none⟩) R R)
  ne : l ≠ C
  chunks : Chunks w C R L E R

theorem Lst.carry {w w' : World} {l C R : Nat} {L : Nat → Nat} {E : Nat → Int} (h : Lst w l C R L E) (hb : Bel w.heap.size w w') : Lst w' l C R L E :=
  ⟨(hb.cell (by exact World.block_lt_of_cell? _ _ h.head)).trans h.head, h.ne, h.chunks.carry hb⟩

theorem Chunks.item {w : World} {C R i : Nat} {L : Nat → Nat} {E : Nat → Int} (h : Chunks w C R L E R) (hi : i < R) : ∃ a c, w.cell? ⟨C, i * 4, none⟩ = some (.slice a (L i) c) := by
  obtain ⟨g, hg, hh⟩ := h
  obtain ⟨⟨a, c, h1⟩, _⟩ := hh i hi
  exact ⟨a, c, by rw [hg.cell (by omega), h1]⟩
theorem Chunks.end' {w : World} {C R i : Nat} {L : Nat → Nat} {E : Nat → Int} (h : Chunks w C R L E R) (hi : i < R) : w.cell? ⟨C, i * 4 + 1, none⟩ = some (.int .i64 (E i)) := by
  obtain ⟨g, hg, hh⟩ := h
  rw [hg.cell (by omega), (hh i hi).2]
theorem Chunks.free {w : World} {C R i j : Nat} {L : Nat → Nat} {E : Nat → Int} (h : Chunks w C R L E j) (i : Nat) : w.frozen? ⟨C, i, none⟩ = false := by
  obtain ⟨g, hg, hh⟩ := h
  exact hg.frozen i
theorem Chunks.setEnd {w : World} {C R j : Nat} {L : Nat → Nat} {E E' : Nat → Int} (h : Chunks w C R L E R) (hj : j < R) (v : Int) (he : ∀ i, i < R → E' i = if i = j then v else E i) :
    Chunks (w.setCell ⟨C, j * 4 + 1, none⟩ (.int .i64 v)) C R L E' R := by
  obtain ⟨g, hg, hh⟩ := h
  refine ⟨_, hg.set (j * 4 + 1) _, fun i hi => ?_⟩
  obtain ⟨⟨a, c, h1⟩, h2⟩ := hh i hi
  refine ⟨⟨a, c, by rw [if_neg (by omega)]; exact h1⟩, ?_⟩
  rw [he i hi]
  by_cases e : i = j
  · subst e; simp
  · rw [if_neg (by omega), if_neg e]; exact h2
theorem Chunks.congr {w : World} {C R j : Nat} {L : Nat → Nat} {E E' : Nat → Int} (h : Chunks w C R L E j) (he : ∀ i, i < j → E' i = E i) : Chunks w C R L E' j := by
  obtain ⟨g, hg, hh⟩ := h
  exact ⟨g, hg, fun i hi => by rw [he i hi]; exact hh i hi⟩

/-- Where count begins. -/
def start (E : Nat → Int) (c : Nat) : Int := if c = 0 then 0 else E (c - 1)

set_option maxHeartbeats 400000 in
set_option maxRecDepth 1000000 in
theorem start_any (l C R c : Nat) (L : Nat → Nat) (E : Nat → Int) (w : World) (h20 : R ≤ 1048576) (hc : c ≤ R) (h : Lst w l C R L E) :
    Calls Try.prog 45 #[.pointer (some ⟨l, 0, none⟩), .int .i64 c] w fun e w' => e = .returned (.int .i64 (start E c)) ∧ w' = w := by
  have h0 := h.head
  cases c with
  | zero =>
    show Calls Try.prog 45 #[.pointer (some ⟨l, 0, none⟩), .int .i64 0] w fun e w' => e = .returned (.int .i64 0) ∧ w' = w
    go_enter Try.func45, Try.ntmps45
    go_wp2
    go_ret
    exact ⟨rfl, rfl⟩
  | succ c =>
    have he := h.chunks.end' (i := c) (by omega)
    have hs : start E (c + 1) = E c := by simp [start]
    rw [hs]
    have h1 : (((c + 1 : Nat) : Int) == 0) = false := by simp; omega
    have h2 : (((c + 1 : Nat) : Int) - 1) = (c : Int) := by omega
    go_enter Try.func45, Try.ntmps45
    go_wp2
    go_ret
    exact ⟨rfl, rfl⟩

end Go.Proofs.Qxb6003464a
