import Derived.Test.Qxb6003464aRows
import Derived.WalkKit
import Derived.Deep.LoopGhost
import Derived.Deep.OwnRows
import Derived.OpenShut
import Derived.Lib.SliceRun
import Derived.Deep.QuietTactic
import Derived.BigQuiet
namespace Go.Proofs.Qxb6003464a
open Go.RowKit
set_option linter.unusedVariables false

/-- Below block number B nothing has turned (of the tape nothing is said). -/
structure Bel (B : Nat) (w w' : World) : Prop where
  os : w'.os = w.os
  output : w'.output = w.output
  size : w.heap.size ≤ w'.heap.size
  block : ∀ k, k < B → w'.heap[k]? = w.heap[k]?

theorem Bel.of {B : Nat} {w w' : World} (h : Below B w w') : Bel B w w' := ⟨h.os, h.output, h.size, h.block⟩
theorem Bel.refl (B : Nat) (w : World) : Bel B w w := ⟨rfl, rfl, Nat.le_refl _, fun _ _ => rfl⟩
theorem Bel.trans {B : Nat} {a b c : World} (h : Bel B a b) (k : Bel B b c) : Bel B a c :=
  ⟨k.os.trans h.os, k.output.trans h.output, Nat.le_trans h.size k.size, fun i hi => (k.block i hi).trans (h.block i hi)⟩
theorem Bel.mono {B B' : Nat} {w w' : World} (h : Bel B w w') (hB : B' ≤ B) : Bel B' w w' := ⟨h.os, h.output, h.size, fun k hk => h.block k (Nat.lt_of_lt_of_le hk hB)⟩
theorem Bel.drewN {B : Nat} {w w' : World} (h : Bel B w w') (n : Nat) : Bel B w (w'.drewN n) := ⟨h.os, h.output, h.size, h.block⟩
theorem Bel.alloc {B : Nat} {a w : World} (h : Bel B a w) (hB : B ≤ w.heap.size) (o : Obj) : Bel B a (w.alloc o) :=
  h.trans (Bel.of ((Below.refl B w).alloc hB o))
theorem Bel.setCell {B : Nat} {a w : World} (h : Bel B a w) {p : Addr} (hp : B ≤ p.block) (u : Value) : Bel B a (w.setCell p u) :=
  h.trans (Bel.of ((Below.refl B w).setCell hp u))
theorem Bel.cell {B : Nat} {w w' : World} (h : Bel B w w') {p : Addr} (hp : p.block < B) : w'.cell? p = w.cell? p := World.cell?_of_block (w := w) (h.block p.block hp)
theorem Bel.frozen {B : Nat} {w w' : World} (h : Bel B w w') {p : Addr} (hp : p.block < B) : w'.frozen? p = w.frozen? p := World.frozen?_of_block (w := w) (h.block p.block hp)
theorem Bel.frame {W w' : World} (h : Bel W.heap.size W w') (may : MemPlace → Prop) : W.keptBut w' may := by
  refine ⟨h.os, h.output, fun i hi => ?_⟩
  rw [h.block i hi]
  split <;> simp_all
theorem Bel.same {W w' : World} (h : Bel W.heap.size W w') {p : MemPlace} (hp : p.block < W.heap.size) : W.sameAt w' p := by
  cases p with
  | cell b o => exact World.cell?_of_block (w := W) (h.block b hp)
  | map b => exact h.block b hp
theorem Bel.trod {H : Type} {enc : TypeId × Value → H} {P : Program} {t : TypeId} (hl : laidOutB P = true) (hr : P.readableRec t = true) (hrow : t < P.types.size) {W W' : World} {v : Value} {d : DataW H} {ps : List MemPlace}
    (h : DataW.Trod enc P W 0 (fun _ => true) true t v d ps) (hb : Bel W.heap.size W W') (hlt : ∀ x ∈ ps, x.block < W.heap.size) :
    DataW.Trod enc P W' 0 (fun b => decide (b < W.heap.size)) true t v d ps :=
  WideElems.Trod_stays hl hr hrow h (fun x hx => hb.same (hlt x hx)) (fun x hx => by simpa using hlt x hx)

/-- A slice of n integers of kind k that can be read, lying below block B. -/
def Ints (k : IntKind) (w : World) (v : Value) (n : Nat) (f : Nat → Int) : Prop :=
  ∃ a c, v = .slice a n c ∧ ∀ i, i < n → ∃ b off, a = some ⟨b, off, none⟩ ∧ b < w.heap.size ∧ w.cell? ⟨b, off + i, none⟩ = some (.int k (f i))

theorem Ints.carry {k : IntKind} {w w' : World} {v : Value} {n : Nat} {f : Nat → Int} (h : Ints k w v n f) (hb : Bel w.heap.size w w') : Ints k w' v n f := by
  obtain ⟨a, c, hv, hi⟩ := h
  refine ⟨a, c, hv, fun i hin => ?_⟩
  obtain ⟨b, off, ha, hlt, hc⟩ := hi i hin
  exact ⟨b, off, ha, Nat.lt_of_lt_of_le hlt hb.size, (hb.cell (by exact hlt)).trans hc⟩

/-- The same where nothing lies behind the length. -/
def Tight (k : IntKind) (w : World) (v : Value) (n : Nat) (f : Nat → Int) : Prop := Ints k w v n f ∧ ∃ a, v = .slice a n n ∧ (n = 0 ∨ a ≠ none)

theorem Tight.carry {k : IntKind} {w w' : World} {v : Value} {n : Nat} {f : Nat → Int} (h : Tight k w v n f) (hb : Bel w.heap.size w w') : Tight k w' v n f :=
  ⟨h.1.carry hb, h.2⟩

theorem Try.info23 : (Try.prog.info? 23).map (fun i => (i.zero, i.size, i.bytes)) = some (some (.int .i8 0), 1, 1) := by kernel_rfl
theorem Try.info3 : (Try.prog.info? 3).map (fun i => (i.zero, i.size, i.bytes)) = some (some (.int .i64 0), 1, 8) := by kernel_rfl
theorem Try.info22 : (Try.prog.info? 22).map (fun i => (i.zero, i.size, i.bytes)) = some (some (.slice none 0 0), 1, 24) := by kernel_rfl

/-- What the copy holds behind j rounds. -/
def part (k : IntKind) (f : Nat → Int) (j : Nat) (i : Nat) : Value := if i < j then .int k (f i) else .int k 0

theorem part_step {w : World} {B n j : Nat} {t : TypeId} {k : IntKind} {f : Nat → Int} (h : w.rowIs B t n (part k f j)) :
    (w.setCell ⟨B, j, none⟩ (.int k (f j))).rowIs B t n (part k f (j + 1)) := by
  refine (h.set j _).congr fun i hi => ?_
  unfold part
  by_cases h1 : i = j
  · subst h1; simp
  · rw [if_neg h1]
    by_cases h2 : i < j
    · rw [if_pos h2, if_pos (by omega)]
    · rw [if_neg h2, if_neg (by omega)]

theorem tight_of_row {w : World} {B n : Nat} {t : TypeId} {k : IntKind} {f : Nat → Int} (h : w.rowIs B t n (part k f n)) : Tight k w (.slice (some ⟨B, 0, none⟩) n n) n f :=
  ⟨⟨_, _, rfl, fun i hi => ⟨B, 0, rfl, h.lt, by rw [Nat.zero_add, h.cell hi]; simp [part, hi]⟩⟩, _, rfl, .inr (by simp)⟩

end Go.Proofs.Qxb6003464a
