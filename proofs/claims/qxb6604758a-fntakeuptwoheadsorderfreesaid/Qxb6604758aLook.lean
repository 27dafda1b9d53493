import Derived.Test.Qxb6604758aApply
/-
  zzApplyHead whole; the readers: ZZtopicCount, ZZhasTopic, First, Len.
-/
namespace Go.Proofs.Qxb6604758a
open Go.RowKit
set_option linter.unusedVariables false
set_option linter.unusedSimpArgs false

set_option maxRecDepth 100000 in
theorem apply_short (vb g : Nat) (l : List UInt8) (kv : Value) (ks : List Key) (F : Key → Option Int) (w : World) (hV : VK vb kv ks F w)
    (hc : Cells w g 0 l) (h2 : 1 ≤ l.length) (hn : l.length ≤ 1048576) (hd : dec 0 0 (l.drop 1) = none) :
    Calls Try.prog 16 #[.slice (some ⟨g, 0, none⟩) l.length l.length, kv, .map (some vb)] w fun e w' => ∃ kv' b, e = .returned (.tuple #[kv', .bool b]) ∧ b = false ∧ Done vb w (F, ks.length) kv' [] w' := by
  have hz := zuv g 0 l.length l.length 1 l w rfl hn h2 hc
  have ez : zres l 1 = (0, (1 : Int), false) := by unfold zres; rw [hd]; rfl
  rw [ez] at hz
  have HD : Hid (Done vb w (F, ks.length) kv [] w) := ⟨ks, F, rfl, hV, Low.refl _ _⟩
  clear ez hd hV hc
  go_enter Try.func16, Try.ntmps16
  go_wp2_with fail
  refine hz.mono ?_
  rintro e w ⟨rfl, rfl⟩
  go_wp2_with fail
  go_ret2
  exact ⟨_, _, rfl, rfl, HD.out⟩

/-- zzApplyHead. -/
theorem apply_head (vb g : Nat) (l : List UInt8) (kv : Value) (ks : List Key) (F : Key → Option Int) (w : World) (hV : VK vb kv ks F w) (hg : g < vb)
    (hc : Cells w g 0 l) (h2 : 1 ≤ l.length) (hn : l.length ≤ 1048576) (hroom : ks.length + l.length ≤ 4194304) :
    Calls Try.prog 16 #[.slice (some ⟨g, 0, none⟩) l.length l.length, kv, .map (some vb)] w fun e w' => ∃ kv' b, e = .returned (.tuple #[kv', .bool b]) ∧ b = (heads l).2 ∧ Done vb w (F, ks.length) kv' (heads l).1 w' := by
  cases hd : dec 0 0 (l.drop 1) with
  | none =>
    have e : heads l = ([], false) := by unfold heads; rw [hd]
    rw [e]
    exact apply_short vb g l kv ks F w hV hc h2 hn hd
  | some vk =>
    obtain ⟨v, k⟩ := vk
    obtain ⟨b0, b1, b2, b3⟩ := dec_le _ 0 0 _ _ hd
    obtain ⟨NN, rfl⟩ : ∃ V : Nat, v = (V : Int) := ⟨v.toNat, by omega⟩
    have e : heads l = ents NN (l.drop (1 + k)) := by unfold heads; rw [hd]; simp
    rw [e]
    exact apply_long vb g l kv ks F w hV hg hc h2 hn hroom NN k hd

set_option maxRecDepth 100000 in
/-- ZZtopicCount. -/
theorem topicCount (m N : Nat) (B : Key → Option Nat) (F : Key → Option Int) (w : World) (h : StoB m N B F w) :
    Calls Try.prog 17 #[ptr (m + 2)] w fun e w' => e = .returned (.int .i64 N) ∧ w' = w := by
  have c11 := h.mapCell
  have hlen := h.tab.len Try.underlying61 3
  clear h
  go_enter Try.func17, Try.ntmps17
  go_wp2
  go_ret
  exact ⟨rfl, rfl⟩

set_option maxRecDepth 100000 in
/-- ZZhasTopic. -/
theorem hasTopic (m N : Nat) (B : Key → Option Nat) (F : Key → Option Int) (k : Key) (w : World) (h : StoB m N B F w) (hk : k.length ≤ maxLen) (hF : (F k).isSome = true) :
    Calls Try.prog 18 #[ptr (m + 2), keyV k] w fun e w' => e = .returned (.bool true) ∧ w' = w := by
  have c11 := h.mapCell
  have hl := h.tab.lookOk Try.underlying61 (Try.zeroValue81 w) hk
  cases hp : B k with
  | none => rw [h.no k hp] at hF; cases hF
  | some p =>
    rw [hp] at hl
    simp only [Option.map_some, Option.getD_some, Option.isSome_some] at hl
    clear h
    go_enter Try.func18, Try.ntmps18
    go_wp2
    go_ret
    exact ⟨rfl, rfl⟩

end Go.Proofs.Qxb6604758a
