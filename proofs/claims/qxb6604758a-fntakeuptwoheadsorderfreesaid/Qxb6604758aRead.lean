import Derived.Test.Qxb6604758aLook
/-
  First and Len, under the reader's lock.
-/
namespace Go.Proofs.Qxb6604758a
open Go.RowKit
set_option linter.unusedVariables false
set_option linter.unusedSimpArgs false

theorem wr1 : wrap32 (0 + 1) = 1 := by first | rfl | (unfold wrap32; omega)
theorem wr0 : wrap32 (1 + -1) = 0 := by first | rfl | (unfold wrap32; omega)

/-- The store's world while one reader holds the lock. -/
abbrev lk (m : Nat) (w : World) : World := w.setCell ⟨m + 2, 9, none⟩ (.int .i32 1)

theorem lk_back {m : Nat} {w : World} (h : w.heap[m + 2]? = some (stoObj m)) : ((lk m w).setCell ⟨m + 2, 9, none⟩ (.int .i32 0)).Alike w := by
  have h1 := heap_setCell_same w (m + 2) 9 _ _ (.int .i32 1) h
  have h2 := heap_setCell_same _ (m + 2) 9 _ _ (.int .i32 0) h1
  refine ⟨Array.ext_getElem? fun i => ?_, rfl, rfl⟩
  by_cases hi : i = m + 2
  · subst hi
    rw [h]
    exact h2
  · exact (heap_setCell_other _ ⟨m + 2, 9, none⟩ i _ hi).trans (heap_setCell_other _ ⟨m + 2, 9, none⟩ i _ hi)

theorem lk_cells {m : Nat} {w : World} (h : w.heap[m + 2]? = some (stoObj m)) :
    w.cell? ⟨m + 2, 5, none⟩ = some (.int .i32 0) ∧ w.cell? ⟨m + 2, 7, none⟩ = some (.int .u32 0) ∧ w.cell? ⟨m + 2, 8, none⟩ = some (.int .u32 0) ∧ w.cell? ⟨m + 2, 9, none⟩ = some (.int .i32 0) ∧ w.frozen? ⟨m + 2, 9, none⟩ = false := by
  simp [World.cell?, World.frozen?, h]

theorem rlock {m : Nat} {w : World} (h : w.heap[m + 2]? = some (stoObj m)) :
    Calls Try.prog 24 #[.pointer (some ⟨m + 2, 5, none⟩)] w fun e w' => e = .returned (.tuple #[]) ∧ w' = lk m w := by
  obtain ⟨c5, c7, c8, c9, fz⟩ := lk_cells h
  refine (Go.RwLone.rlock_open Try.rwRLib (m + 2) 5 0 _ _ w c5 c8 c9 fz (by rw [wr1]; omega)).mono ?_
  rintro e w' ⟨rfl, rfl⟩
  exact ⟨rfl, by rw [wr1]⟩

theorem runlock {m : Nat} {w : World} (h : w.heap[m + 2]? = some (stoObj m)) :
    CallsD Try.prog 25 #[.pointer (some ⟨m + 2, 5, none⟩)] .returning (lk m w) fun e u' w' => u' = .returning ∧ (e = .returned (.tuple #[]) ∧ w' = (lk m w).setCell ⟨m + 2, 9, none⟩ (.int .i32 0)) := by
  obtain ⟨c5, c7, c8, c9, fz⟩ := lk_cells h
  refine (Go.RwLone.runlock_deferred Try.rwRLib (m + 2) 5 1 (.int .i32 0) (.int .u32 0) .returning (lk m w) ?_ ?_ ?_ ?_ (by rw [wr0]; omega)).mono ?_
  · exact (World.cell?_setCell_other _ ⟨m + 2, 9, none⟩ ⟨m + 2, 5, none⟩ _ (by simp)).trans c5
  · exact (World.cell?_setCell_other _ ⟨m + 2, 9, none⟩ ⟨m + 2, 7, none⟩ _ (by simp)).trans c7
  · exact World.cell?_setCell_same w _ _ c9
  · simp [fz]
  · rintro e u' w' ⟨rfl, rfl, rfl⟩
    exact ⟨rfl, rfl, by rw [wr0]⟩

theorem lk_facts {m N : Nat} {B : Key → Option Nat} {F : Key → Option Int} {k : Key} {p : Nat} {v : Int} {w : World} (h : StoB m N B F w) (hk : k.length ≤ maxLen) (hp : B k = some p) (hv : F k = some v) :
    (lk m w).cell? ⟨m + 2, 11, none⟩ = some (.map (some m)) ∧ (Instr.lookup 61 (.map (some m)) (keyV k) false).run Try.prog (lk m w) = .ok (ptr p) (lk m w) ∧
      (lk m w).cell? ⟨p, 0, none⟩ = some (.int .i64 v) ∧ (lk m w).cell? ⟨p, 2, none⟩ = some (.int .i64 v) := by
  obtain ⟨h1, v', hv', hb⟩ := h.blk k p hp
  rw [hv] at hv'
  cases hv'
  obtain ⟨c0, _, c2, _⟩ := cells_blk3 hb
  have ht : Tab (lk m w) m N (fun k => (B k).map ptr) := h.tab.block (heap_setCell_other _ ⟨m + 2, 9, none⟩ m _ (by simp))
  have hl := ht.look Try.underlying61 (Try.zeroValue81 (lk m w)) hk
  rw [hp] at hl
  have hne : ¬ p = m + 2 := by omega
  exact ⟨(World.cell?_setCell_other _ ⟨m + 2, 9, none⟩ ⟨m + 2, 11, none⟩ _ (by simp)).trans h.mapCell, hl,
    (World.cell?_setCell_other _ ⟨m + 2, 9, none⟩ ⟨p, 0, none⟩ _ (by simp)).trans c0,
    (World.cell?_setCell_other _ ⟨m + 2, 9, none⟩ ⟨p, 2, none⟩ _ (by simp [hne])).trans c2⟩

set_option maxRecDepth 100000 in
set_option maxHeartbeats 1000000 in
/-- (*Store).Len. -/
theorem lenOf (m N : Nat) (B : Key → Option Nat) (F : Key → Option Int) (k : Key) (v : Int) (w : World) (h : StoB m N B F w) (hk : k.length ≤ maxLen) (hF : F k = some v) :
    Calls Try.prog 20 #[ptr (m + 2), keyV k] w fun e w' => e = .returned (.int .i64 v) ∧ w'.Alike w := by
  cases hp : B k with
  | none => rw [h.no k hp] at hF; cases hF
  | some p =>
    obtain ⟨f1, f2, f3, f4⟩ := lk_facts h hk hp hF
    have hR := rlock h.obj
    have hU := runlock h.obj
    have hB := lk_back h.obj
    clear h
    go_enter_defers Try.func20, Try.ntmps20
    go_wp2_with fail
    refine hR.mono ?_
    rintro e w' ⟨rfl, rfl⟩
    go_wp2_with fail
    refine leaves_cons (f := 25) (args := #[.pointer (some ⟨m + 2, 5, none⟩)]) (by simp) (by simp [go_sem]) ?_
    refine hU.mono ?_
    rintro e u' w'' ⟨rfl, rfl, rfl⟩
    exact ⟨_, results_tmp rfl _ _ _, rfl, hB⟩

set_option maxRecDepth 100000 in
set_option maxHeartbeats 1000000 in
/-- (*Store).First. -/
theorem firstOf (m N : Nat) (B : Key → Option Nat) (F : Key → Option Int) (k : Key) (v : Int) (w : World) (h : StoB m N B F w) (hk : k.length ≤ maxLen) (hF : F k = some v) :
    Calls Try.prog 19 #[ptr (m + 2), keyV k] w fun e w' => e = .returned (.int .i64 v) ∧ w'.Alike w := by
  cases hp : B k with
  | none => rw [h.no k hp] at hF; cases hF
  | some p =>
    obtain ⟨f1, f2, f3, f4⟩ := lk_facts h hk hp hF
    have hR := rlock h.obj
    have hU := runlock h.obj
    have hB := lk_back h.obj
    clear h
    go_enter_defers Try.func19, Try.ntmps19
    go_wp2_with fail
    refine hR.mono ?_
    rintro e w' ⟨rfl, rfl⟩
    go_wp2_with fail
    refine leaves_cons (f := 25) (args := #[.pointer (some ⟨m + 2, 5, none⟩)]) (by simp) (by simp [go_sem]) ?_
    refine hU.mono ?_
    rintro e u' w'' ⟨rfl, rfl, rfl⟩
    exact ⟨_, results_tmp rfl _ _ _, rfl, hB⟩

end Go.Proofs.Qxb6604758a
