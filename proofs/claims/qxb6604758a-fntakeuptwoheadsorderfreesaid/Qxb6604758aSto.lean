import Derived.Test.Qxb6604758aUv
/-
  The store's state, and (*Store).topic.
-/
namespace Go.Proofs.Qxb6604758a
open Go.RowKit
set_option linter.unusedVariables false
set_option linter.unusedSimpArgs false

/-- A topic's block: both offsets v, no position. -/
abbrev blk3 (v : Int) : Obj := .cells #[.int .i64 v, .slice none 0 0, .int .i64 v] 85
/-- The store's block, m its map of topics' block. -/
abbrev stoObj (m : Nat) : Obj := .cells #[.string ⟨#[]⟩, .pointer none, .pointer none, .slice none 0 0, .chan none, .int .i32 0, .int .u32 0, .int .u32 0, .int .u32 0, .int .i32 0, .int .i32 0, .map (some m), .map (some (m + 1)), .int .i64 0, .int .i64 0, .int .i32 0, .int .u32 0, .int .i64 0] 75
abbrev ptr (p : Nat) : Value := .pointer (some ⟨p, 0, none⟩)

/-- The store at block m + 2 indexes N topics, each at the block that B names, with the offset that F names. -/
structure StoB (m N : Nat) (B : Key → Option Nat) (F : Key → Option Int) (w : World) : Prop where
  obj : w.heap[m + 2]? = some (stoObj m)
  tab : Tab w m N (fun k => (B k).map ptr)
  blk : ∀ k p, B k = some p → m + 2 < p ∧ ∃ v, F k = some v ∧ w.heap[p]? = some (blk3 v)
  no : ∀ k, B k = none → F k = none
  inj : ∀ k k' p, B k = some p → B k' = some p → k = k'

/-- What the store's own calls leave alone. -/
structure Fr (m : Nat) (w w' : World) : Prop where
  os : w'.os = w.os
  output : w'.output = w.output
  size : w.heap.size ≤ w'.heap.size
  low : ∀ i, i < m → w'.heap[i]? = w.heap[i]?
  oth : ∀ i o, w.heap[i]? = some o → i ≠ m → (∀ v, o ≠ blk3 v) → w'.heap[i]? = some o

theorem Fr.refl (m : Nat) (w : World) : Fr m w w := ⟨rfl, rfl, Nat.le_refl _, fun _ _ => rfl, fun _ _ h _ _ => h⟩
theorem Fr.trans {m : Nat} {a b c : World} (h : Fr m a b) (k : Fr m b c) : Fr m a c :=
  ⟨k.os.trans h.os, k.output.trans h.output, Nat.le_trans h.size k.size, fun i hi => (k.low i hi).trans (h.low i hi), fun i o h1 h2 h3 => k.oth i o (h.oth i o h1 h2 h3) h2 h3⟩

theorem lt_of_get {w : World} {i : Nat} {o : Obj} (h : w.heap[i]? = some o) : i < w.heap.size := (Array.getElem?_eq_some_iff.1 h).1
theorem get_alloc_old {w : World} {i : Nat} (o : Obj) (h : i < w.heap.size) : (w.alloc o).heap[i]? = w.heap[i]? := by
  have := Array.getElem?_push (xs := w.heap) (x := o) (i := i)
  rw [if_neg (by omega)] at this
  exact this
theorem size_alloc (w : World) (o : Obj) : (w.alloc o).heap.size = w.heap.size + 1 := Array.size_push ..
theorem get_alloc_new (w : World) (o : Obj) : (w.alloc o).heap[w.heap.size]? = some o := by
  have := Array.getElem?_push (xs := w.heap) (x := o) (i := w.heap.size)
  rw [if_pos rfl] at this
  exact this

theorem Fr.alloc {m : Nat} (w : World) (o : Obj) (hm : m ≤ w.heap.size) : Fr m w (w.alloc o) :=
  ⟨rfl, rfl, by rw [size_alloc]; omega, fun i hi => get_alloc_old o (by omega), fun i ob h _ _ => (get_alloc_old o (lt_of_get h)).trans h⟩

theorem StoB.of {m N : Nat} {B : Key → Option Nat} {F : Key → Option Int} {w w' : World} (h : StoB m N B F w) (hk : ∀ i, m ≤ i → i < w.heap.size → w'.heap[i]? = w.heap[i]?) : StoB m N B F w' := by
  have h2 := lt_of_get h.obj
  refine ⟨(hk _ (by omega) h2).trans h.obj, h.tab.block (hk _ (Nat.le_refl _) (by omega)), fun k p hp => ?_, h.no, h.inj⟩
  obtain ⟨h3, v, hv, hb⟩ := h.blk k p hp
  exact ⟨h3, v, hv, (hk _ (by omega) (lt_of_get hb)).trans hb⟩

theorem StoB.alloc {m N : Nat} {B : Key → Option Nat} {F : Key → Option Int} {w : World} (h : StoB m N B F w) (o : Obj) : StoB m N B F (w.alloc o) :=
  h.of fun i _ hi => get_alloc_old o hi

/-- The map's cell of the store. -/
theorem StoB.mapCell {m N : Nat} {B : Key → Option Nat} {F : Key → Option Int} {w : World} (h : StoB m N B F w) : w.cell? ⟨m + 2, 11, none⟩ = some (.map (some m)) := by
  simp [World.cell?, h.obj]

set_option maxRecDepth 100000 in
/-- (*Store).topic at a topic that is indexed. -/
theorem topic_old (m N : Nat) (B : Key → Option Nat) (F : Key → Option Int) (k : Key) (p : Nat) (w : World) (h : StoB m N B F w) (hk : k.length ≤ maxLen) (hp : B k = some p) :
    Calls Try.prog 31 #[ptr (m + 2), keyV k] w fun e w' => e = .returned (ptr p) ∧ w' = w := by
  have c11 := h.mapCell
  have hl := h.tab.look Try.underlying61 (Try.zeroValue81 w) hk
  rw [hp] at hl
  simp only [Option.map_some, Option.getD_some] at hl
  clear h
  go_enter Try.func31, Try.ntmps31
  go_wp2
  go_ret
  exact ⟨rfl, rfl⟩

set_option maxRecDepth 100000 in
/-- (*Store).topic at a new topic. -/
theorem topic_new (m N : Nat) (B : Key → Option Nat) (F : Key → Option Int) (k : Key) (w : World) (h : StoB m N B F w) (hk : k.length ≤ maxLen) (hN : N < maxLen) (hp : B k = none) :
    Calls Try.prog 31 #[ptr (m + 2), keyV k] w fun e w' => e = .returned (ptr w.heap.size) ∧ StoB m (N + 1) (upd B k w.heap.size) (upd F k 0) w' ∧ Fr m w w' := by
  have c11 := h.mapCell
  have hl := h.tab.look Try.underlying61 (Try.zeroValue81 w) hk
  rw [hp] at hl
  simp only [Option.map_none, Option.getD_none] at hl
  have h1 := h.alloc (blk3 0)
  have c11' := h1.mapCell
  obtain ⟨w2, hrun, htab, hgrow⟩ := h1.tab.store Try.underlying61 hN hk (ptr w.heap.size)
  rw [hp] at htab
  have hpost : StoB m (N + 1) (upd B k w.heap.size) (upd F k 0) w2 ∧ Fr m w w2 := by
    have hsz := lt_of_get h.obj
    have hkeep : ∀ i, i ≠ m → i < (w.alloc (blk3 0)).heap.size → w2.heap[i]? = (w.alloc (blk3 0)).heap[i]? := fun i hi hl => hgrow.block i hl (by simpa using hi)
    refine ⟨⟨?_, ?_, fun x p hx => ?_, fun x hx => ?_, fun x x' p hx hx' => ?_⟩, ?_⟩
    · rw [hkeep _ (by omega) (by rw [size_alloc]; omega)]; exact h1.obj
    · have e1 : (fun x => (upd B k w.heap.size x).map ptr) = upd (fun x => (B x).map ptr) k (ptr w.heap.size) := by
        funext x
        by_cases hx : x = k <;> simp [upd, hx]
      rw [e1]
      exact htab
    · by_cases hxk : x = k
      · simp only [upd, hxk, if_true, Option.some.injEq] at hx
        subst hx
        refine ⟨by omega, 0, by simp [upd, hxk], ?_⟩
        rw [hkeep _ (by omega) (by rw [size_alloc]; omega)]
        exact get_alloc_new w _
      · simp only [upd, hxk, if_false] at hx
        obtain ⟨h3, v, hv, hb⟩ := h1.blk x p hx
        refine ⟨h3, v, by simp [upd, hxk, hv], ?_⟩
        rw [hkeep _ (by omega) (lt_of_get hb)]
        exact hb
    · by_cases hxk : x = k
      · simp [upd, hxk] at hx
      · simp only [upd, hxk, if_false] at hx ⊢
        exact h.no x hx
    · by_cases hxk : x = k <;> by_cases hxk' : x' = k <;> simp only [upd, hxk, hxk', if_true, if_false, Option.some.injEq] at hx hx'
      · rw [hxk, hxk']
      · obtain ⟨_, v, _, hb⟩ := h.blk x' p hx'
        have := lt_of_get hb
        omega
      · obtain ⟨_, v, _, hb⟩ := h.blk x p hx
        have := lt_of_get hb
        omega
      · exact h.inj x x' p hx hx'
    · refine (Fr.alloc w (blk3 0) (by omega)).trans ⟨hgrow.os, hgrow.output, hgrow.size, fun i hi => hkeep i (by omega) (by rw [size_alloc]; omega), fun i o hi hm _ => (hkeep i hm (lt_of_get hi)).trans hi⟩
  clear h h1 htab hgrow
  go_enter Try.func31, Try.ntmps31
  go_wp2
  go_ret
  exact ⟨rfl, hpost⟩

end Go.Proofs.Qxb6604758a
