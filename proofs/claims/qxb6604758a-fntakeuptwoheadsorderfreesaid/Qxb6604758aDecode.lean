import Derived.Test.Qxb6604758aHead
/-
  decodeHead, with the closure of takeUp.
-/
namespace Go.Proofs.Qxb6604758a
open Go.RowKit
set_option linter.unusedVariables false
set_option linter.unusedSimpArgs false

/-- The closure's value, c the block of the variable that it captured. -/
abbrev cloV (c : Nat) : Value := .func (.func 30) #[] #[ptr c]
/-- The block of the captured variable. -/
abbrev capObj (m : Nat) : Obj := .cells #[ptr (m + 2)] 34

/-- Whether an error value says what ok says. -/
def ErrIs (err : Value) (ok : Bool) : Prop := (ok = true ∧ err = .nilIface) ∨ (ok = false ∧ ∃ b, err = .iface 110 (ptr b))

/-- What a reading of entries leaves. -/
def Left (m : Nat) (w : World) (s : Idx) (err : Value) (r : List (Key × Int) × Bool) (w' : World) : Prop :=
  ErrIs err r.2 ∧ (∃ B, StoB m (run s r.1).2 B (run s r.1).1 w') ∧ Fr m w w'

theorem capCell {c m : Nat} {w : World} (h : w.heap[c]? = some (capObj m)) : w.cell? ⟨c, 0, none⟩ = some (ptr (m + 2)) := by simp [World.cell?, h]

theorem cap_kept {c m : Nat} {w w' : World} (h : w.heap[c]? = some (capObj m)) (hcm : c ≠ m) (hf : Fr m w w') : w'.heap[c]? = some (capObj m) :=
  hf.oth c _ h hcm (fun v e => by injection e with e1; simp at e1)

/-- The loop's state. -/
structure InL (m g NN : Nat) (w : World) (s0 : Idx) (r0 : List (Key × Int) × Bool) (j o cap : Nat) (l : List UInt8) (s : Idx) (wr : World) : Prop where
  hj : j ≤ NN
  cells : Cells wr g o l
  sto : ∃ B, StoB m s.2 B s.1 wr
  fr : Fr m w wr
  len : l.length ≤ cap
  hcap : cap ≤ 1048576
  room : s.2 + l.length ≤ 4194304
  all : run s0 r0.1 = run s (ents (NN - j) l).1
  ok : r0.2 = (ents (NN - j) l).2

theorem ents_no {n : Nat} {l : List UInt8} (hd : dec 0 0 l = none) : ents (n + 1) l = ([], false) := by simp [ents, hd]
theorem ents_great {n : Nat} {l : List UInt8} {V k : Nat} (hd : dec 0 0 l = some ((V : Int), k)) (h : l.length - k < V) : ents (n + 1) l = ([], false) := by simp [ents, hd, h]
theorem ents_no2 {n : Nat} {l : List UInt8} {V k : Nat} (hd : dec 0 0 l = some ((V : Int), k)) (h : ¬ l.length - k < V) (hd2 : dec 0 0 (l.drop (k + V)) = none) : ents (n + 1) l = ([], false) := by simp [ents, hd, h, hd2]
theorem ents_yes {n : Nat} {l : List UInt8} {V k k2 : Nat} {v : Int} (hd : dec 0 0 l = some ((V : Int), k)) (h : ¬ l.length - k < V) (hd2 : dec 0 0 (l.drop (k + V)) = some (v, k2)) :
    ents (n + 1) l = (((l.drop k).take V, wrap64 v) :: (ents n (l.drop (k + V + k2))).1, (ents n (l.drop (k + V + k2))).2) := by simp [ents, hd, h, hd2]

/-- The end at a bad entry. -/
theorem InL.bad {m g NN : Nat} {w : World} {s0 : Idx} {r0 : List (Key × Int) × Bool} {j o cap : Nat} {l : List UInt8} {s : Idx} {wr : World} (h : InL m g NN w s0 r0 j o cap l s wr)
    (he : ents (NN - j) l = ([], false)) {w1 w2 : World} (ha : w1.Alike wr) (ob : Obj) (b : Nat) (hw : w2.Alike (w1.alloc ob)) : Left m w s0 (.iface 110 (ptr b)) r0 w2 := by
  obtain ⟨B, hs⟩ := h.sto
  have hm : m < w1.heap.size := by rw [ha.1]; exact hs.tab.lt
  refine ⟨Or.inr ⟨by rw [h.ok, he], b, rfl⟩, ⟨B, ?_⟩, ((h.fr.alike ha).trans (Fr.alloc w1 ob (by omega))).alike hw⟩
  rw [h.all, he]
  exact ((hs.same ha.1).alloc ob).same hw.1

theorem InL.fin {m g NN : Nat} {w : World} {s0 : Idx} {r0 : List (Key × Int) × Bool} {o cap : Nat} {l : List UInt8} {s : Idx} {wr : World} (h : InL m g NN w s0 r0 NN o cap l s wr) :
    Left m w s0 .nilIface r0 wr := by
  obtain ⟨B, hs⟩ := h.sto
  have ha := h.all
  have ho := h.ok
  rw [Nat.sub_self] at ha ho
  refine ⟨Or.inl ⟨ho, rfl⟩, ⟨B, ?_⟩, h.fr⟩
  rw [ha]; exact hs

end Go.Proofs.Qxb6604758a
