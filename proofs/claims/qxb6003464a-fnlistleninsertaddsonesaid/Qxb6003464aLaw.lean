import Derived.Test.Qxb6003464aBytes
namespace Go.Proofs.Qxb6003464a
open Go.RowKit
set_option linter.unusedVariables false
set_option linter.unusedSimpArgs false

theorem L_le_S (L : Nat → Nat) {r R : Nat} (h : r < R) : L r ≤ S L R := by
  have := S_mono L (show r + 1 ≤ R by omega)
  have e : S L (r + 1) = S L r + L r := rfl
  omega

/-- One more at row k. -/
def bump (L : Nat → Nat) (k : Nat) (r : Nat) : Nat := if r = k then L k + 1 else L r

theorem S_bump_lo (L : Nat → Nat) (k : Nat) : ∀ i, i ≤ k → S (bump L k) i = S L i := by
  intro i
  induction i with
  | zero => intro _; rfl
  | succ i ih =>
    intro h
    show S (bump L k) i + bump L k i = S L i + L i
    rw [ih (by omega)]
    unfold bump
    rw [if_neg (by omega)]
theorem S_bump_hi (L : Nat → Nat) (k : Nat) : ∀ i, k < i → S (bump L k) i = S L i + 1 := by
  intro i
  induction i with
  | zero => intro h; omega
  | succ i ih =>
    intro h
    show S (bump L k) i + bump L k i = S L i + L i + 1
    by_cases e : i = k
    · subst e
      rw [S_bump_lo L i i (Nat.le_refl _)]
      unfold bump
      rw [if_pos rfl]
      omega
    · rw [ih (by omega)]
      unfold bump
      rw [if_neg e]
      omega

/-- Another slice is laid into the rows. -/
theorem Own8.put {w : World} {O R : Nat} {L : Nat → Nat} (h : Own8 w O R L R) {k : Nat} {v : Value} {f : Nat → Int} (hv : Ints .i8 w v (L k + 1) f) :
    Rows8 (w.setCell ⟨O, k, none⟩ v) (.slice (some ⟨O, 0, none⟩) R R) R (bump L k) := by
  obtain ⟨g, hg, hs, ht⟩ := h
  have hg' := hg.set k v
  refine ⟨O, 0, R, rfl, hg'.lt, fun r hr => ?_⟩
  rw [Nat.zero_add]
  by_cases e : r = k
  · subst e
    refine ⟨v, f, by rw [hg'.cell hr]; simp, ?_⟩
    have := hv.setRow (i := r) hg hs v
    simpa [bump] using this
  · obtain ⟨f', hf'⟩ := ht r hr
    refine ⟨g r, f', by rw [hg'.cell hr]; simp [e], ?_⟩
    have := hf'.1.setRow (i := k) hg hs v
    simpa [bump, e] using this

def olds (f : Nat → Int) (n : Nat) : List Value := (List.range n).map fun i => Value.int .i8 (f i)

theorem olds_at {w : World} {a : Option Addr} {n c : Nat} {f : Nat → Int} (h : Ints .i8 w (.slice a n c) n f) : ∀ b, a = some b → ∀ j u, (olds f n)[j]? = some u → w.cell? (b.add j) = some u := by
  intro b hb j u hu
  have hj : j < n := by
    have := (List.getElem?_eq_some_iff.1 hu).1
    simpa [olds] using this
  obtain ⟨a', c', hv, hi⟩ := h
  simp only [Value.slice.injEq] at hv
  obtain ⟨rfl, -, -⟩ := hv
  obtain ⟨b', off, ha, _, hc⟩ := hi j hj
  rw [ha] at hb
  simp only [Option.some.injEq] at hb
  subst hb
  rw [Addr.add_lit, hc]
  simp only [olds, List.getElem?_map, List.getElem?_range hj] at hu
  exact hu

theorem ints_of_owns {w : World} {B n : Nat} {v : Value} {f : Nat → Int} {g : Int} (h : w.ownsRow B 23 1 v (n + 1) (olds f n ++ [.int .i8 g])) :
    Ints .i8 w v (n + 1) (fun i => if i < n then f i else g) := by
  have h' := h
  obtain ⟨hl, h2⟩ := h
  rcases h2 with ⟨_, h3⟩ | ⟨b, cap, cur, rfl, hb, hh, _⟩
  · omega
  · refine ⟨_, _, rfl, fun i hi => ⟨b, 0, rfl, ?_, ?_⟩⟩
    · exact (Array.getElem?_eq_some_iff.1 hh).1
    · have := h'.cellAt i (by omega)
      rw [Nat.zero_add, this]
      by_cases e : i < n
      · rw [List.getElem?_append_left (by simp [olds]; exact e)]
        simp [olds, e]
      · rw [List.getElem?_append_right (by simp [olds]; omega)]
        have : i - (olds f n).length = 0 := by simp [olds]; omega
        rw [this]
        simp [e]

theorem one_at8 (w : World) (v : Value) (t : TypeId) : ∀ (j : Nat) (u : Value), [v][j]? = some u → (w.alloc (.cells #[v] t)).cell? (Addr.add ⟨w.heap.size, 0, none⟩ j) = some u := by
  intro j u hj
  match j, hj with
  | 0, hj => simp at hj; subst hj; simp [Addr.add]
theorem one_one8 (n : Int) : ∀ u ∈ [Value.int .i8 n], u.oneCell' = true := by
  intro u hu; simp at hu; subst hu; rfl

end Go.Proofs.Qxb6003464a
