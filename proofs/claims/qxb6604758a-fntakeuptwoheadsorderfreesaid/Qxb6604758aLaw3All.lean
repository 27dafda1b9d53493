import Derived.Test.Qxb6604758aLaw3Walk
/-
  The third law, whatever slices came in.
-/
namespace Go.Proofs.Qxb6604758a
open Go.RowKit
set_option linter.unusedVariables false
set_option linter.unusedSimpArgs false

theorem Low.frame {W w' : World} (h : Low W.heap.size W w') (may : MemPlace → Prop) : W.keptBut w' may := by
  refine ⟨h.os, h.output, fun i hi => ?_⟩
  rw [h.low i hi]
  split <;> simp_all
theorem Low.sameAt {W w' : World} (h : Low W.heap.size W w') {p : MemPlace} (hp : p.block < W.heap.size) : W.sameAt w' p := by
  cases p with
  | cell b o => exact World.cell?_of_block (w := W) (h.low b hp)
  | map b => exact h.low b hp
theorem Low.trod {H : Type} {enc : TypeId × Value → H} {P : Program} {t : TypeId} (hl : laidOutB P = true) (hr : P.readableRec t = true) (hrow : t < P.types.size) {W W' : World} {v : Value} {d : DataW H} {ps : List MemPlace}
    (h : DataW.Trod enc P W 0 (fun _ => true) true t v d ps) (hb : Low W.heap.size W W') (hlt : ∀ x ∈ ps, x.block < W.heap.size) :
    DataW.Trod enc P W' 0 (fun b => decide (b < W.heap.size)) true t v d ps :=
  WideElems.Trod_stays hl hr hrow h (fun x hx => hb.sameAt (hlt x hx)) (fun x hx => by simpa using hlt x hx)

set_option maxRecDepth 100000 in
/-- Too long: nothing is asked. -/
theorem law3_big (a0 a1 : Option Addr) (l0 c0 l1 c1 : Nat) (w : World) (h0 : l0 ≤ maxLen) (h1 : l1 ≤ maxLen) (h : 1048576 < l0 + l1) :
    Calls Try.prog 5 #[.slice a0 l0 c0, .slice a1 l1 c1] w fun e w' => e = .returned (.bool true) ∧ Low w.heap.size w w' := by
  have h12 := bytes12 a0 a1 l0 c0 l1 c1 w false h0 h1 (by simp; omega)
  go_enter Try.func5, Try.ntmps5
  go_wp2_with fail
  refine h12.mono ?_
  rintro e w ⟨rfl, rfl⟩
  go_wp2_with fail
  go_ret
  exact ⟨rfl, Low.refl _ _⟩

set_option maxRecDepth 100000 in
/-- An empty head: nothing is asked. -/
theorem law3_empty (a0 a1 : Option Addr) (l0 c0 l1 c1 : Nat) (w : World) (h : l0 + l1 ≤ 1048576) (he : l0 < 1 ∨ l1 < 1) :
    Calls Try.prog 5 #[.slice a0 l0 c0, .slice a1 l1 c1] w fun e w' => e = .returned (.bool true) ∧ Low w.heap.size w w' := by
  have h12 := bytes12 a0 a1 l0 c0 l1 c1 w true (by unfold maxLen; omega) (by unfold maxLen; omega) (by simp; omega)
  by_cases h0 : l0 < 1
  · clear he
    go_enter Try.func5, Try.ntmps5
    go_wp2_with fail
    refine h12.mono ?_
    rintro e w ⟨rfl, rfl⟩
    go_wp2_with fail
    go_ret
    exact ⟨rfl, Low.refl _ _⟩
  · have h1 : l1 < 1 := by omega
    clear he
    go_enter Try.func5, Try.ntmps5
    go_wp2_with fail
    refine h12.mono ?_
    rintro e w ⟨rfl, rfl⟩
    go_wp2_with fail
    go_ret
    exact ⟨rfl, Low.refl _ _⟩

/-- Two heads that are copied and asked. -/
theorem law3_two (x y : Addr) (l0 c0 l1 c1 : Nat) (z0 z1 : List Int) (w : World) (h : l0 + l1 ≤ 1048576) (h0 : 1 ≤ l0) (h1 : 1 ≤ l1)
    (n0 : l0 ≤ z0.length) (n1 : l1 ≤ z1.length)
    (k0 : ∀ i, i < z0.length → w.cell? (x.add i) = some (.int .u8 (z0.getD i 0))) (k1 : ∀ i, i < z1.length → w.cell? (y.add i) = some (.int .u8 (z1.getD i 0)))
    (f0 : ∀ n ∈ z0, (Lit.int .u8 n).wf = true) (f1 : ∀ n ∈ z1, (Lit.int .u8 n).wf = true) :
    Calls Try.prog 5 #[.slice (some x) l0 c0, .slice (some y) l1 c1] w fun e w' => e = .returned (.bool true) ∧ Low w.heap.size w w' := by
  have e0 := bytesOf_len n0
  have e1 := bytesOf_len n1
  have hA := copyBytes x l0 c0 z0 w n0 (by omega) k0 f0
  have hB : ∀ w1, Cells w1 w.heap.size 0 (bytesOf z0 l0) → Low w.heap.size w w1 → Hid (w1.heap.size = w.heap.size + 1) →
      Calls Try.prog 13 #[.slice (some y) l1 c1] w1 fun e w' => e = .returned (.slice (some ⟨w.heap.size + 1, 0, none⟩) l1 l1) ∧ Two w (bytesOf z0 l0) (bytesOf z1 l1) w' := by
    intro w1 hc hl hs
    have hk : ∀ i, i < z1.length → w1.cell? (y.add i) = some (.int .u8 (z1.getD i 0)) := fun i hi => by
      have hb := World.block_lt_of_cell? _ _ (k1 i hi)
      rw [← k1 i hi]
      exact World.cell?_of_block (w := w) (hl.low _ hb)
    refine (copyBytes y l1 c1 z1 w1 n1 (by omega) hk f1).mono ?_
    rintro e w' ⟨rfl, hcb, hlb, hsz⟩
    have hs' := hs.out
    rw [hs'] at hcb hlb hsz ⊢
    exact ⟨rfl, hc.of_block (hlb.low _ (by omega)), hcb, hl.trans (hlb.mono (by omega)), by omega⟩
  have := law3_small x y c0 c1 (bytesOf z0 l0) (bytesOf z1 l1) w (by omega) (by omega) (by omega)
    (by rw [e0]; exact hA) (by rw [e1]; exact hB)
  rw [e0, e1] at this
  exact this

end Go.Proofs.Qxb6604758a
