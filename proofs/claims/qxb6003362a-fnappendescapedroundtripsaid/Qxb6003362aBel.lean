import Derived.Test.Qxb6003362aUnesc
import Derived.Test.Qxb6003362aClone
import Derived.Deep.QuietTactic
import Derived.BigQuiet
namespace Go.Proofs.Qxb6003362a
open Go.RowKit
set_option linter.unusedVariables false

/-- Below block number B nothing has turned (of the tape nothing is said). -/
structure Bel (B : Nat) (w w' : World) : Prop where
  os : w'.os = w.os
  output : w'.output = w.output
  size : w.heap.size ≤ w'.heap.size
  block : ∀ k, k < B → w'.heap[k]? = w.heap[k]?

theorem Bel.of {B : Nat} {w w' : World} (h : Below B w w') : Bel B w w' := ⟨h.os, h.output, h.size, h.block⟩
theorem Bel.trans {B : Nat} {a b c : World} (h : Bel B a b) (k : Bel B b c) : Bel B a c :=
  ⟨k.os.trans h.os, k.output.trans h.output, Nat.le_trans h.size k.size, fun i hi => (k.block i hi).trans (h.block i hi)⟩
theorem Bel.mono {B B' : Nat} {w w' : World} (h : Bel B w w') (hB : B' ≤ B) : Bel B' w w' := ⟨h.os, h.output, h.size, fun k hk => h.block k (Nat.lt_of_lt_of_le hk hB)⟩
theorem Bel.drewN {B : Nat} {w w' : World} (h : Bel B w w') (n : Nat) : Bel B w (w'.drewN n) := ⟨h.os, h.output, h.size, h.block⟩
theorem Bel.cell {B : Nat} {w w' : World} (h : Bel B w w') {p : Addr} (hp : p.block < B) : w'.cell? p = w.cell? p := World.cell?_of_block (w := w) (h.block p.block hp)
theorem Bel.frame {W w' : World} (h : Bel W.heap.size W w') (may : MemPlace → Prop) : W.keptBut w' may := by
  refine ⟨h.os, h.output, fun i hi => ?_⟩
  rw [h.block i hi]
  split <;> simp_all
theorem Bel.same {W w' : World} (h : Bel W.heap.size W w') {p : MemPlace} (hp : p.block < W.heap.size) : W.sameAt w' p := by
  cases p with
  | cell b o => exact World.cell?_of_block (w := W) (h.block b hp)
  | map b => exact h.block b hp
theorem Bel.trod {H : Type} {enc : TypeId × Value → H} {P : Program} {t : TypeId} (hl : laidOutB P = true) (hr : P.readableRec t = true) (hrow : t < P.types.size) {W W' : World} {v : Value} {d : DataW H} {ps : List MemPlace}
    (h : DataW.Trod enc P W 0 (fun _ => true) true t v d ps) (hb : Bel W.heap.size W W') (hlt : ∀ x ∈ ps, x.block < W.heap.size) :
    DataW.Trod enc P W' 0 (fun b => decide (b < W.heap.size)) true t v d ps :=
  WideElems.Trod_stays hl hr hrow h (fun x hx => hb.same (hlt x hx)) (fun x hx => by simpa using hlt x hx)

/-- An append onto a slice without spare room leaves all that was there. -/
theorem Bel.of_upon {W : World} {e : TypeId} {ao : Option Addr} {b off len : Nat} {olds : List Value} {w : World} {v : Value} {m : Nat} {ks : List Value} {r : Nat}
    (h : Upon W e 1 ao b off len len olds w v m ks r) : Bel W.heap.size W w := by
  have hr : r = 0 := by have := h.rFit; omega
  subst hr
  exact ⟨h.kept.1, h.kept.2.1, h.kept.size, fun k hk => h.kept.block hk (fun p hp _ => by obtain ⟨j, hj, _⟩ := hp; omega)⟩

/-- The numbers of a slice of bytes, as cells. -/
def icells (zs : List Int) (len : Nat) : List Value := (zs.take len).map (Value.int .u8)

/-- cloneBytesZZ, whatever slice came in. -/
theorem clone_any (a : Option Addr) (len cap : Nat) (zs : List Int) (w : World) (h20 : len ≤ 1048576)
    (h : (a = none ∧ len = 0 ∧ cap = 0 ∧ zs = []) ∨
      ∃ x, a = some x ∧ len ≤ cap ∧ cap ≤ maxLen ∧ zs.length = cap ∧ (∀ i, i < zs.length → w.cell? (x.add i) = some (.int .u8 (zs.getD i 0))) ∧ ∀ n ∈ zs, (Lit.int .u8 n).wf = true) :
    Calls Try.prog 6 #[.slice a len cap] w fun e w' => ∃ bo, e = .returned (.slice bo len len) ∧ Came w' 1 bo w.heap.size 0 len len (icells zs len) ∧ Bel w.heap.size w w' := by
  rcases h with ⟨rfl, rfl, rfl, rfl⟩ | ⟨x, rfl, hl, hm, hz, hcell, _⟩
  · refine (clone_nil w).mono ?_
    rintro e w' ⟨rfl, rfl⟩
    exact ⟨none, rfl, ⟨Nat.le_refl _, fun h => by omega, fun h => by omega, rfl, fun j u hj => by simp [icells] at hj, fun j hj => by omega⟩, Bel.of (Below.refl _ _)⟩
  · refine (clone_some x len cap zs w (by omega) h20 hcell).mono ?_
    rintro e w' ⟨rfl, hrow, hbel, hsz⟩
    refine ⟨_, rfl, ⟨Nat.le_refl _, fun _ => rfl, fun _ => by omega, by simp [icells]; omega, fun j u hj => ?_, fun j hj => by omega⟩, Bel.of hbel⟩
    have hjl : j < len := by
      have := (List.getElem?_eq_some_iff.1 hj).1
      simp [icells] at this; omega
    rw [Nat.zero_add, hrow.cell hjl]
    simp only [icells, List.getElem?_map, List.getElem?_take, if_pos hjl] at hj
    rw [List.getElem?_eq_getElem (by omega)] at hj
    simp at hj
    rw [← hj, List.getD_eq_getElem?_getD, List.getElem?_eq_getElem (by omega)]
    rfl

end Go.Proofs.Qxb6003362a
