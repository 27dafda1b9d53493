import Derived.Test.Qxb6604758aSto
/-
  The closure that takeUp hands to decodeHead.
-/
namespace Go.Proofs.Qxb6604758a
open Go.RowKit
set_option linter.unusedVariables false
set_option linter.unusedSimpArgs false

/-- Block p has turned to a topic's block with offset v, and nothing else. -/
structure Turned (p : Nat) (v : Int) (w w' : World) : Prop where
  os : w'.os = w.os
  output : w'.output = w.output
  size : w'.heap.size = w.heap.size
  here : w'.heap[p]? = some (blk3 v)
  oth : ∀ i, i ≠ p → w'.heap[i]? = w.heap[i]?

theorem cells_blk3 {w : World} {p : Nat} {v : Int} (h : w.heap[p]? = some (blk3 v)) :
    w.cell? ⟨p, 0, none⟩ = some (.int .i64 v) ∧ w.cell? ⟨p, 1, none⟩ = some (.slice none 0 0) ∧ w.cell? ⟨p, 2, none⟩ = some (.int .i64 v) ∧ ∀ o, w.frozen? ⟨p, o, none⟩ = false := by
  simp [World.cell?, World.frozen?, h]

theorem turned_set {p : Nat} {v0 v : Int} {w : World} (h : w.heap[p]? = some (blk3 v0)) :
    Turned p v w (((w.setCell ⟨p, 0, none⟩ (.int .i64 v)).setCell ⟨p, 2, none⟩ (.int .i64 v)).drew) := by
  have h1 := heap_setCell_same w p 0 _ _ (.int .i64 v) h
  have h2 := heap_setCell_same _ p 2 _ _ (.int .i64 v) h1
  refine ⟨rfl, rfl, by simp, ?_, fun i hi => ?_⟩
  · exact h2
  · exact (heap_setCell_other _ ⟨p, 2, none⟩ i _ hi).trans (heap_setCell_other _ ⟨p, 0, none⟩ i _ hi)

/-- One entry of a head: the topic's offset rises to v. -/
def stepF (F : Key → Option Int) (k : Key) (v : Int) : Key → Option Int := upd F k (max ((F k).getD 0) v)
def stepN (F : Key → Option Int) (k : Key) (N : Nat) : Nat := if (F k).isSome then N else N + 1

theorem StoB.turned {m N p : Nat} {B : Key → Option Nat} {F : Key → Option Int} {k : Key} {v : Int} {w w' : World} (h : StoB m N B F w) (hp : B k = some p) (ht : Turned p v w w') :
    StoB m N B (upd F k v) w' ∧ Fr m w w' := by
  obtain ⟨h1, v1, _, hb1⟩ := h.blk k p hp
  obtain ⟨es, cl, hm⟩ := h.tab.isMap
  have hpm : m ≠ p := by omega
  have hps : m + 2 ≠ p := by omega
  refine ⟨⟨(ht.oth _ hps).trans h.obj, h.tab.block (ht.oth _ hpm), fun x q hx => ?_, fun x hx => ?_, h.inj⟩, ⟨ht.os, ht.output, by rw [ht.size]; exact Nat.le_refl _, fun i hi => ht.oth i (by omega), fun i o hi him hno => ?_⟩⟩
  · by_cases hxk : x = k
    · subst hxk
      rw [hp] at hx
      cases hx
      exact ⟨h1, v, by simp [upd], ht.here⟩
    · obtain ⟨h3, v3, hv3, hb3⟩ := h.blk x q hx
      refine ⟨h3, v3, by simp [upd, hxk, hv3], ?_⟩
      rw [ht.oth q (fun e => hxk (h.inj x k p (e ▸ hx) hp))]
      exact hb3
  · have hxk : x ≠ k := fun e => by rw [e, hp] at hx; cases hx
    simp only [upd, hxk, if_false]
    exact h.no x hx
  · rw [ht.oth i (fun e => ?_)]
    · exact hi
    · subst e
      rw [hb1] at hi
      exact hno v1 (by cases hi; rfl)

set_option maxRecDepth 100000 in
theorem clo_from (m c p : Nat) (k : Key) (v v0 : Int) (w : World) (Q : World → Prop) (hc : w.cell? ⟨c, 0, none⟩ = some (ptr (m + 2)))
    (ht : Calls Try.prog 31 #[ptr (m + 2), keyV k] w fun e w1 => e = .returned (ptr p) ∧ Q w1) (hQ : ∀ w1, Q w1 → w1.heap[p]? = some (blk3 v0)) :
    Calls Try.prog 30 #[keyV k, .int .i64 v, ptr c] w fun e w' => e = .returned (.tuple #[]) ∧ ∃ w1, Q w1 ∧ Turned p (max v0 v) w1 w' := by
  go_enter Try.func30, Try.ntmps30
  go_wp2_with fail
  refine ht.mono ?_
  rintro e w1 ⟨rfl, hq⟩
  obtain ⟨c0, c1, c2, fz⟩ := cells_blk3 (hQ w1 hq)
  have f0 := fz 0
  have f2 := fz 2
  clear fz
  go_wp2_with fail
  all_goals
    go_region
    all_goals
      go_wp2
      go_end0
      refine ⟨rfl, w1, hq, ?_⟩
  · have e : max v0 v = v := by omega
    rw [e]; exact turned_set (hQ w1 hq)
  · have e : max v0 v = v0 := by omega
    rw [e]; exact turned_set (hQ w1 hq)

/-- The closure, in whatever state of the store. -/
theorem clo_any (m c N : Nat) (B : Key → Option Nat) (F : Key → Option Int) (k : Key) (v : Int) (w : World) (h : StoB m N B F w) (hk : k.length ≤ maxLen) (hN : N < maxLen) (hc : w.cell? ⟨c, 0, none⟩ = some (ptr (m + 2))) :
    Calls Try.prog 30 #[keyV k, .int .i64 v, ptr c] w fun e w' => e = .returned (.tuple #[]) ∧ (∃ B', StoB m (stepN F k N) B' (stepF F k v) w') ∧ Fr m w w' := by
  cases hp : B k with
  | some p =>
    obtain ⟨h1, v0, hF, hb⟩ := h.blk k p hp
    refine (clo_from m c p k v v0 w (fun w1 => w1 = w) hc (topic_old m N B F k p w h hk hp) (fun w1 e => e ▸ hb)).mono ?_
    rintro e w' ⟨rfl, w1, rfl, ht⟩
    obtain ⟨hs, hf⟩ := h.turned hp ht
    refine ⟨rfl, ⟨B, ?_⟩, hf⟩
    simpa [stepN, stepF, hF] using hs
  | none =>
    have hF := h.no k hp
    refine (clo_from m c w.heap.size k v 0 w (fun w1 => StoB m (N + 1) (upd B k w.heap.size) (upd F k 0) w1 ∧ Fr m w w1) hc (topic_new m N B F k w h hk hN hp) (fun w1 e => ?_)).mono ?_
    · obtain ⟨_, v0, h0, hb⟩ := e.1.blk k w.heap.size (by simp [upd])
      simp [upd] at h0
      rw [h0]; exact hb
    rintro e w' ⟨rfl, w1, ⟨hs1, hf1⟩, ht⟩
    obtain ⟨hs, hf⟩ := hs1.turned (k := k) (by simp [upd]) ht
    refine ⟨rfl, ⟨upd B k w.heap.size, ?_⟩, hf1.trans hf⟩
    have e1 : upd (upd F k 0) k (max 0 v) = stepF F k v := by
      funext x
      by_cases hx : x = k <;> simp [stepF, upd, hx, hF]
    rw [e1] at hs
    simpa [stepN, hF] using hs

end Go.Proofs.Qxb6604758a
