import Derived.Test.Qxb6604758aOrder
/-
  The third law: its parts, in the form in which the walk meets them.
-/
namespace Go.Proofs.Qxb6604758a
open Go.RowKit
set_option linter.unusedVariables false
set_option linter.unusedSimpArgs false

set_option maxRecDepth 100000 in
theorem bytes12 (a0 a1 : Option Addr) (l0 c0 l1 c1 : Nat) (w : World) (b : Bool) (h0 : l0 ≤ maxLen) (h1 : l1 ≤ maxLen) (hb : b = decide (l0 + l1 ≤ 1048576)) :
    Calls Try.prog 12 #[.slice a0 l0 c0, .slice a1 l1 c1] w fun e w' => e = .returned (.bool b) ∧ w' = w := by
  subst hb
  unfold maxLen at h0 h1
  by_cases k0 : l0 ≤ 1048576
  · by_cases k1 : l1 ≤ 1048576
    · by_cases k2 : l0 + l1 ≤ 1048576
      · rw [decide_eq_true k2]
        go_enter Try.func12, Try.ntmps12
        go_wp2
        go_ret
        exact ⟨rfl, rfl⟩
      · rw [decide_eq_false k2]
        go_enter Try.func12, Try.ntmps12
        go_wp2
        go_ret
        exact ⟨rfl, rfl⟩
    · rw [decide_eq_false (by omega)]
      go_enter Try.func12, Try.ntmps12
      go_wp2
      go_ret
      exact ⟨rfl, rfl⟩
  · rw [decide_eq_false (by omega)]
    go_enter Try.func12, Try.ntmps12
    go_wp2
    go_ret
    exact ⟨rfl, rfl⟩

theorem VK.same {vb : Nat} {kv : Value} {ks : List Key} {F : Key → Option Int} {w w' : World} (h : VK vb kv ks F w) (e : w'.heap = w.heap) : VK vb kv ks F w' := by
  refine ⟨h.tab.block (by rw [e]), ?_, h.mem⟩
  have := h.row
  unfold World.ownsRow at this ⊢
  rw [e]
  exact this

/-- Where all is taken up: both stores and the model say the same. -/
structure Fin (m1 m2 vb : Nat) (kv : Value) (ks : List Key) (F : Key → Option Int) (w : World) : Prop where
  s1 : ∃ B, StoB m1 ks.length B F w
  s2 : ∃ B, StoB m2 ks.length B F w
  vk : VK vb kv ks F w

theorem Fin.alike {m1 m2 vb : Nat} {kv : Value} {ks : List Key} {F : Key → Option Int} {w w' : World} (h : Fin m1 m2 vb kv ks F w) (k : w'.Alike w) : Fin m1 m2 vb kv ks F w' :=
  ⟨h.s1.elim fun B hB => ⟨B, hB.same k.1⟩, h.s2.elim fun B hB => ⟨B, hB.same k.1⟩, h.vk.same k.1⟩

/-- What the law asks of the stores at one key. -/
structure Asks (m : Nat) (k : Key) (v : Int) (w : World) : Prop where
  has : ∀ W, W.Alike w → Calls Try.prog 18 #[ptr (m + 2), keyV k] W fun e w' => e = .returned (.bool true) ∧ w' = W
  first : ∀ W, W.Alike w → Calls Try.prog 19 #[ptr (m + 2), keyV k] W fun e w' => e = .returned (.int .i64 v) ∧ w'.Alike w
  len : ∀ W, W.Alike w → Calls Try.prog 20 #[ptr (m + 2), keyV k] W fun e w' => e = .returned (.int .i64 v) ∧ w'.Alike w

theorem alike_trans {a b c : World} (h : a.Alike b) (k : b.Alike c) : a.Alike c := ⟨h.1.trans k.1, h.2.1.trans k.2.1, h.2.2.trans k.2.2⟩

theorem asks {m N : Nat} {B : Key → Option Nat} {F : Key → Option Int} {k : Key} {v : Int} {w : World} (h : StoB m N B F w) (hk : k.length ≤ maxLen) (hF : F k = some v) : Asks m k v w :=
  ⟨fun W hW => hasTopic m N B F k W (h.same hW.1) hk (by rw [hF]; rfl),
   fun W hW => (firstOf m N B F k v W (h.same hW.1) hk hF).mono (by rintro e w' ⟨rfl, ha⟩; exact ⟨rfl, alike_trans ha hW⟩),
   fun W hW => (lenOf m N B F k v W (h.same hW.1) hk hF).mono (by rintro e w' ⟨rfl, ha⟩; exact ⟨rfl, alike_trans ha hW⟩)⟩

/-- One key of the model: its cell, its value, and what both stores answer. -/
theorem Fin.key {m1 m2 vb g cap : Nat} {ks : List Key} {F : Key → Option Int} {w : World} (h : Fin m1 m2 vb (.slice (some ⟨g, 0, none⟩) ks.length cap) ks F w) {i : Nat} (hi : i < ks.length) :
    ∃ (k : Key) (v : Int), w.cell? ⟨g, i, none⟩ = some (keyV k) ∧ (Instr.lookup 39 (.map (some vb)) (keyV k) false).run Try.prog w = .ok (.int .i64 v) w ∧ Asks m1 k v w ∧ Asks m2 k v w := by
  obtain ⟨B1, h1⟩ := h.s1
  obtain ⟨B2, h2⟩ := h.s2
  have hm := h.vk.mem ks[i] (List.getElem_mem _)
  obtain ⟨v, hv⟩ := Option.isSome_iff_exists.1 hm.1
  refine ⟨ks[i], v, ?_, ?_, asks h1 hm.2 hv, asks h2 hm.2 hv⟩
  · have := h.vk.row.cells (g := g) rfl i (keyV ks[i]) (by rw [List.getElem?_map, List.getElem?_eq_getElem hi]; rfl)
    rw [Lib.add_plain, Nat.zero_add] at this
    exact this
  · have := h.vk.tab.look Try.underlying39 (Try.zeroValue2 w) hm.2
    rw [hv] at this
    exact this

/-- The row of the keys: nil, or a slice of their number. -/
theorem Fin.row {m1 m2 vb : Nat} {kv : Value} {ks : List Key} {F : Key → Option Int} {w : World} (h : Fin m1 m2 vb kv ks F w) :
    (kv = .slice none 0 0 ∧ ks.length = 0) ∨ ∃ g cap, kv = .slice (some ⟨g, 0, none⟩) ks.length cap := by
  rcases h.vk.row.2 with ⟨h1, h2⟩ | ⟨g, cap, cur, h1, _⟩
  · exact Or.inl ⟨h1, h2⟩
  · exact Or.inr ⟨g, cap, h1⟩

/-- The two copies, and what was there. -/
structure Two (w : World) (A Bl : List UInt8) (wr : World) : Prop where
  ca : Cells wr w.heap.size 0 A
  cb : Cells wr (w.heap.size + 1) 0 Bl
  low : Low w.heap.size w wr
  big : w.heap.size + 2 ≤ wr.heap.size

theorem Two.on {w : World} {A Bl : List UInt8} {wr w' : World} (h : Two w A Bl wr) {m : Nat} (hm : w.heap.size + 2 ≤ m) (hl : Low m wr w') : Two w A Bl w' :=
  ⟨h.ca.of_block (hl.low _ (by omega)), h.cb.of_block (hl.low _ (by omega)), h.low.trans (hl.mono (by omega)), Nat.le_trans h.big hl.size⟩

theorem newS (w : World) : Calls Try.prog 14 #[] w fun e w' => ∃ m, e = .returned (ptr (m + 2)) ∧ Hid (m = w.heap.size) ∧ StoB m 0 (fun _ => none) (fun _ => none) w' ∧ Low m w w' :=
  (newStore w).mono (by rintro e w' ⟨rfl, hs, hf⟩; exact ⟨w.heap.size, rfl, rfl, hs, hf.toLow⟩)

theorem StoB.low {m N : Nat} {B : Key → Option Nat} {F : Key → Option Int} {w w' : World} (h : StoB m N B F w) (hl : Low w.heap.size w w') : StoB m N B F w' := h.of fun i _ hi => hl.low i hi

end Go.Proofs.Qxb6604758a
