import Derived.Test.Qxb6604758aCut
/-
  The entries of a head, plain; small contracts for decodeHead.
-/
namespace Go.Proofs.Qxb6604758a
open Go.RowKit
set_option linter.unusedVariables false
set_option linter.unusedSimpArgs false

/-- The entries that are read whole, c of them at most, and whether all were. -/
def ents : Nat → List UInt8 → List (Key × Int) × Bool
  | 0, _ => ([], true)
  | c + 1, l => match dec 0 0 l with
    | none => ([], false)
    | some (V, k) =>
      if l.length - k < V.toNat then ([], false) else
      match dec 0 0 (l.drop (k + V.toNat)) with
      | none => ([], false)
      | some (v, k2) => (((l.drop k).take V.toNat, wrap64 v) :: (ents c (l.drop (k + V.toNat + k2))).1, (ents c (l.drop (k + V.toNat + k2))).2)

/-- A head record: its entries, and whether it read back whole. -/
def heads (l : List UInt8) : List (Key × Int) × Bool := match dec 0 0 (l.drop 1) with
  | none => ([], false)
  | some (n, k) => ents n.toNat (l.drop (1 + k))

/-- The state of an index: each topic's offset, and how many topics there are. -/
abbrev Idx := (Key → Option Int) × Nat
def step (s : Idx) (x : Key × Int) : Idx := (stepF s.1 x.1 x.2, stepN s.1 x.1 s.2)
def run (s : Idx) (es : List (Key × Int)) : Idx := es.foldl step s

theorem Cells.of_block {w w' : World} {g o : Nat} {l : List UInt8} (h : Cells w g o l) (e : w'.heap[g]? = w.heap[g]?) : Cells w' g o l := by
  intro j hj
  rw [World.cell?_of_block (w := w) (a := ⟨g, o + j, none⟩) e]
  exact h j hj
theorem StoB.same {m N : Nat} {B : Key → Option Nat} {F : Key → Option Int} {w w' : World} (h : StoB m N B F w) (e : w'.heap = w.heap) : StoB m N B F w' := h.of fun i _ _ => by rw [e]
theorem Fr.alike {m : Nat} {a b c : World} (h : Fr m a b) (k : c.Alike b) : Fr m a c :=
  ⟨k.2.1.trans h.os, k.2.2.trans h.output, by rw [k.1]; exact h.size, fun i hi => by rw [k.1]; exact h.low i hi, fun i o h1 h2 h3 => by rw [k.1]; exact h.oth i o h1 h2 h3⟩

set_option maxRecDepth 100000 in
/-- errors.New. -/
theorem errorsNew (s : ByteArray) (w : World) :
    Calls Try.prog 43 #[.string s] w fun e w' => e = .returned (.iface 110 (ptr w.heap.size)) ∧ w' = w.alloc (.cells #[.string s] 112) := by
  go_enter Try.func43, Try.ntmps43
  go_wp2
  go_ret
  exact ⟨rfl, rfl⟩

end Go.Proofs.Qxb6604758a
