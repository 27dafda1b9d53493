import Derived.Test.Qxb6604758aTake
import Derived.OwnWalk
/-
  The law's own model of a head: the map vals and the slice keys.
-/
namespace Go.Proofs.Qxb6604758a
open Go.RowKit
set_option linter.unusedVariables false
set_option linter.unusedSimpArgs false

/-- Below block m nothing has turned. -/
structure Low (m : Nat) (w w' : World) : Prop where
  os : w'.os = w.os
  output : w'.output = w.output
  size : w.heap.size ≤ w'.heap.size
  low : ∀ i, i < m → w'.heap[i]? = w.heap[i]?

theorem Low.refl (m : Nat) (w : World) : Low m w w := ⟨rfl, rfl, Nat.le_refl _, fun _ _ => rfl⟩
theorem Low.trans {m : Nat} {a b c : World} (h : Low m a b) (k : Low m b c) : Low m a c :=
  ⟨k.os.trans h.os, k.output.trans h.output, Nat.le_trans h.size k.size, fun i hi => (k.low i hi).trans (h.low i hi)⟩
theorem Low.mono {m n : Nat} {a b : World} (h : Low m a b) (hn : n ≤ m) : Low n a b := ⟨h.os, h.output, h.size, fun i hi => h.low i (by omega)⟩
theorem Fr.toLow {m : Nat} {a b : World} (h : Fr m a b) : Low m a b := ⟨h.os, h.output, h.size, h.low⟩
theorem Low.alloc {m : Nat} (w : World) (o : Obj) (hm : m ≤ w.heap.size) : Low m w (w.alloc o) := (Fr.alloc w o hm).toLow
theorem Low.grown {m : Nat} {w w' : World} {row : Option Nat} (h : w.grownBy w' row) (hm : m ≤ w.heap.size) (hr : ∀ j, row = some j → m ≤ j) : Low m w w' :=
  ⟨h.os, h.output, h.size, fun i hi => h.block i (by omega) (fun e => by have := hr i e.symm; omega)⟩

abbrev iV (v : Int) : Value := .int .i64 v

/-- vals at block vb holds F; kv is the slice of the keys ks. -/
structure VK (vb : Nat) (kv : Value) (ks : List Key) (F : Key → Option Int) (w : World) : Prop where
  tab : Tab w vb ks.length (fun k => (F k).map iV)
  row : w.ownsRow (vb + 1) 9 1 kv ks.length (ks.map keyV)
  mem : ∀ k, k ∈ ks → (F k).isSome = true ∧ k.length ≤ maxLen

theorem upd_map (F : Key → Option Int) (k : Key) (y : Int) : upd (fun x => (F x).map iV) k (iV y) = fun x => (upd F k y x).map iV := by
  funext x
  by_cases hx : x = k <;> simp [upd, hx]

theorem VK.put {vb : Nat} {kv : Value} {ks : List Key} {F : Key → Option Int} {w : World} (h : VK vb kv ks F w) {k : Key} (hk : k.length ≤ maxLen) (hN : ks.length < maxLen) (hF : (F k).isSome = true) (y : Int) :
    ∃ w', (Instr.mapUpdate 39 (.map (some vb)) (keyV k) (iV y)).run Try.prog w = .ok () w' ∧ VK vb kv ks (upd F k y) w' ∧ Low vb w w' := by
  obtain ⟨w', hrun, ht, hg⟩ := h.tab.store Try.underlying39 hN hk (iV y)
  refine ⟨w', hrun, ⟨?_, h.row.kept hg ?_, fun x hx => ?_⟩, Low.grown hg (Nat.le_of_lt h.tab.lt) (fun j e => by cases e; exact Nat.le_refl _)⟩
  · rw [upd_map] at ht
    simpa [hF] using ht
  · cases hb : kv.ownBlock with
    | none => exact Or.inl rfl
    | some b =>
      refine Or.inr (fun e => ?_)
      have e' : b = vb := by injection e
      have := (h.row.lt b hb).1
      omega
  · by_cases hxk : x = k
    · exact ⟨by simp [upd, hxk], by rw [hxk]; exact hk⟩
    · exact ⟨by simp [upd, hxk, (h.mem x hx).1], (h.mem x hx).2⟩

theorem one_new (w : World) (x : Value) : ∀ j u, [x][j]? = some u → (w.alloc (.cells #[x] 9)).cell? ((⟨w.heap.size, 0, none⟩ : Addr).add j) = some u := by
  intro j u hj
  match j, hj with
  | 0, hj =>
    simp at hj
    subst hj
    rw [Lib.add_plain]
    have := get_alloc_new w (.cells #[x] 9)
    simp only [World.cell?, this]
    rfl

theorem Try.info9 : (Try.prog.info? 9).map (fun i => (i.zero, i.size, i.bytes)) = some (some (.string ⟨#[]⟩), 1, 16) := by kernel_rfl

theorem VK.app {vb : Nat} {kv : Value} {ks : List Key} {F : Key → Option Int} {w : World} (h : VK vb kv ks F w) {k : Key} (hk : k.length ≤ maxLen) (hN : ks.length ≤ 4194304) (hF : F k = none) (y : Int) (ty : TypeId) :
    ∃ kv' w2 w3, (Builtin.append_ #[40, 40] ty #[kv, .slice (some ⟨w.heap.size, 0, none⟩) 1 1]).run Try.prog (w.alloc (.cells #[keyV k] 9)) = .ok kv' w2 ∧
      (Instr.mapUpdate 39 (.map (some vb)) (keyV k) (iV y)).run Try.prog w2 = .ok () w3 ∧ VK vb kv' (ks ++ [k]) (upd F k y) w3 ∧ Low vb w w3 := by
  obtain ⟨i0, hi, hz0, hz1, hz2⟩ := info_parts Try.info9
  have hv := h.tab.lt
  have hsz := size_alloc w (.cells #[keyV k] 9)
  obtain ⟨kv', w2, hrun, hown, hg, _⟩ := run_append_own (P := Try.prog) (w.alloc (.cells #[keyV k] 9)) (vb + 1) 40 ty 9 i0 (.string ⟨#[]⟩) 1 16 Try.underlying40 hi hz0 hz1 hz2 rfl (by decide) kv ks.length (ks.map keyV) (h.row.alloc _) ⟨w.heap.size, 0, none⟩ 1 1 [keyV k] rfl
    (one_new w (keyV k)) (fun u hu => by simp at hu; subst hu; rfl) (by unfold maxLen; omega) (by omega) (by omega)
  have hnb : ∀ b, kv.ownBlock = some b → vb + 1 ≤ b := fun b hb => (h.row.lt b hb).1
  have htab2 : Tab w2 vb ks.length (fun x => (F x).map iV) := by
    refine h.tab.block ((hg.block vb (by omega) (fun e => ?_)).trans (get_alloc_old _ hv))
    have := hnb vb e.symm
    omega
  obtain ⟨w3, hrun3, ht3, hg3⟩ := htab2.store Try.underlying39 (by unfold maxLen; omega) hk (iV y)
  refine ⟨kv', w2, w3, hrun, hrun3, ⟨?_, ?_, fun x hx => ?_⟩, (Low.alloc w _ (Nat.le_of_lt hv)).trans ((Low.grown hg (by omega) (fun j e => by have := hnb j e; omega)).trans (Low.grown hg3 (Nat.le_of_lt htab2.lt) (fun j e => by cases e; exact Nat.le_refl _)))⟩
  · rw [upd_map] at ht3
    simpa [hF] using ht3
  · have := hown.kept hg3 (by
      cases hb : kv'.ownBlock with
      | none => exact Or.inl rfl
      | some b =>
        refine Or.inr (fun e => ?_)
        have e' : b = vb := by injection e
        have := (hown.lt b hb).1
        omega)
    simpa using this
  · by_cases hxk : x = k
    · exact ⟨by simp [upd, hxk], by rw [hxk]; exact hk⟩
    · simp only [List.mem_append, List.mem_singleton, hxk, or_false] at hx
      exact ⟨by simp [upd, hxk, (h.mem x hx).1], (h.mem x hx).2⟩

end Go.Proofs.Qxb6604758a
