import Derived.Test.Qxb6604758aRw
import Derived.Maps.OwnSet
import Derived.Carry
import Derived.WalkKit
/-
  A map of the program with string keys, as a plain function from keys to element values.
-/
namespace Go.Proofs.Qxb6604758a
open Go.RowKit
set_option linter.unusedVariables false
set_option maxRecDepth 100000

abbrev Key := List UInt8
/-- A key as the program holds it. -/
abbrev keyV (k : Key) : Value := .string ⟨k.toArray⟩
/-- How an element reads: as itself. -/
def R (v : Value) : Option (DataW Value × List MemPlace) := some (.held v, [])

/-- One key set. -/
def upd {α : Type} (f : Key → Option α) (k : Key) (v : α) : Key → Option α := fun x => if x = k then some v else f x

/-- Block b is a map with N entries that holds what f says. -/
def Tab (w : World) (b N : Nat) (f : Key → Option Value) : Prop :=
  ∃ D : DataW Value, w.ownsMap Try.prog 9 R b N D ∧ Maps.Tidy D ∧ Maps.size D = N ∧
    ∀ k : Key, Maps.has D (.string k) = (f k).isSome ∧ ∀ z, D.atKey (.string k) (.held z) = .held ((f k).getD z)

theorem ownsMap_size {w : World} {b n : Nat} {D : DataW Value} (h : w.ownsMap Try.prog 9 R b n D) : w.ownsMap Try.prog 9 R b (Maps.size D) D := by
  obtain ⟨es, clock, hb, F, hs, rfl⟩ := h
  exact ⟨es, clock, hb, F, by simp [Maps.size, length_sorted], rfl⟩

theorem Tab.made (w : World) : Tab (w.alloc (.map #[] 0)) w.heap.size 0 (fun _ => none) :=
  ⟨.map [], World.ownsMap_made w _ _ _, Maps.tidy_empty, rfl, fun k => ⟨rfl, fun z => rfl⟩⟩

theorem Tab.block {w w' : World} {b N : Nat} {f : Key → Option Value} (h : Tab w b N f) (hb : w'.heap[b]? = w.heap[b]?) : Tab w' b N f := by
  obtain ⟨D, ⟨es, clock, h0, h1⟩, h2⟩ := h
  exact ⟨D, ⟨es, clock, hb.trans h0, h1⟩, h2⟩

theorem Tab.lt {w : World} {b N : Nat} {f : Key → Option Value} (h : Tab w b N f) : b < w.heap.size := by
  obtain ⟨D, h0, _⟩ := h
  exact h0.lt

theorem Tab.isMap {w : World} {b N : Nat} {f : Key → Option Value} (h : Tab w b N f) : ∃ es clock, w.heap[b]? = some (.map es clock) := by
  obtain ⟨D, ⟨es, clock, h0, _⟩, _⟩ := h
  exact ⟨es, clock, h0⟩

theorem isKey (k : Key) : WideAt.IsKeyLit (.string k) := trivial
theorem keyed : Maps.Keyed Try.prog 9 := Maps.string_keyed Try.underlying9

theorem keyOf_keyV {k : Key} (hk : k.length ≤ maxLen) : keyOf Try.prog 9 (keyV k) = some (.string k) := by
  have := WideMaps.keyOf_string_mk (P := Try.prog) (k := 9) Try.underlying9 (s := ⟨k.toArray⟩) (by simpa [ByteArray.size] using hk)
  simpa using this

theorem Tab.look {w : World} {b N : Nat} {f : Key → Option Value} (h : Tab w b N f) {t e : TypeId} (ht : Try.prog.underlying t = some (.map 9 e)) {z : Value} (hz : (zeroValue e).run Try.prog w = .ok z w) {k : Key} (hk : k.length ≤ maxLen) :
    (Instr.lookup t (.map (some b)) (keyV k) false).run Try.prog w = .ok ((f k).getD z) w := by
  obtain ⟨D, h0, _, _, hf⟩ := h
  obtain ⟨v, ps, hrun, hv⟩ := h0.lookup keyed ht hz (zd := .held z) (zp := []) rfl (keyOf_keyV hk)
  rw [(hf k).2 z] at hv
  simp only [R, Option.some.injEq, Prod.mk.injEq, DataW.held.injEq] at hv
  rw [hrun, hv.1]

theorem Tab.lookOk {w : World} {b N : Nat} {f : Key → Option Value} (h : Tab w b N f) {t e : TypeId} (ht : Try.prog.underlying t = some (.map 9 e)) {z : Value} (hz : (zeroValue e).run Try.prog w = .ok z w) {k : Key} (hk : k.length ≤ maxLen) :
    (Instr.lookup t (.map (some b)) (keyV k) true).run Try.prog w = .ok (.tuple #[(f k).getD z, .bool (f k).isSome]) w := by
  obtain ⟨D, h0, _, _, hf⟩ := h
  obtain ⟨v, ps, hrun, hv⟩ := h0.look_ok keyed ht hz (zd := .held z) (zp := []) rfl (keyOf_keyV hk)
  rw [(hf k).2 z] at hv
  simp only [R, Option.some.injEq, Prod.mk.injEq, DataW.held.injEq] at hv
  rw [hrun, hv.1, (hf k).1]

theorem Tab.len {w : World} {b N : Nat} {f : Key → Option Value} (h : Tab w b N f) {t e : TypeId} (ht : Try.prog.underlying t = some (.map 9 e)) (ty : TypeId) :
    (Builtin.len_ #[t] ty #[.map (some b)]).run Try.prog w = .ok (.int .i64 N) w := by
  obtain ⟨D, h0, _, hs, _⟩ := h
  rw [h0.len ht ty, hs]

theorem Tab.store {w : World} {b N : Nat} {f : Key → Option Value} (h : Tab w b N f) {t e : TypeId} (ht : Try.prog.underlying t = some (.map 9 e)) (hN : N < maxLen) {k : Key} (hk : k.length ≤ maxLen) (v : Value) :
    ∃ w', (Instr.mapUpdate t (.map (some b)) (keyV k) v).run Try.prog w = .ok () w' ∧ Tab w' b (if (f k).isSome then N else N + 1) (upd f k v) ∧ w.grownBy w' (some b) := by
  obtain ⟨D, h0, ht0, hs, hf⟩ := h
  obtain ⟨w', hrun, h1, h2⟩ := h0.update keyed ht hN (keyOf_keyV hk) (val := v) (d := .held v) (ps := []) rfl
  have hsz : Maps.size (D.put (.string k) (.held v)) = if (f k).isSome then N else N + 1 := by
    rw [Maps.size_put ht0, (hf k).1, hs]
  refine ⟨w', hrun, ⟨D.put (.string k) (.held v), ?_, ht0.put (isKey k) _, hsz, fun x => ?_⟩, h2⟩
  · rw [← hsz]; exact ownsMap_size h1
  · by_cases hx : x = k
    · subst hx
      exact ⟨by rw [Maps.has_put_same ht0.isMap (isKey x)]; simp [upd], fun z => by rw [Maps.atKey_put_same ht0.isMap (isKey x)]; simp [upd]⟩
    · have hne : (Lit.string x) ≠ (Lit.string k) := fun e => hx (by injection e)
      exact ⟨by rw [Maps.has_put_other hne, (hf x).1]; simp [upd, hx], fun z => by rw [Maps.atKey_put_other hne, (hf x).2]; simp [upd, hx]⟩

end Go.Proofs.Qxb6604758a
