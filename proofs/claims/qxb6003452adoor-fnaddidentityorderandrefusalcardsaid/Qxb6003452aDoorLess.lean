import Derived.Test.Qxb6003452aDoorSchool
namespace Go.Proofs.Qxb6003452aDoor
open Go.RowKit
set_option linter.unusedVariables false

/-- At the first place where they part, s has the smaller byte; and there is such a place. -/
structure Lt (s t : ByteArray) (L : Nat) : Prop where
  ls : s.size = L
  lt : t.size = L
  first : ∀ j (h1 : j < s.size) (h2 : j < t.size), (∀ i (g1 : i < s.size) (g2 : i < t.size), i < j → s[i] = t[i]) → s[j] ≠ t[j] → s[j].toNat < t[j].toNat
  differ : ¬ ∀ i (g1 : i < s.size) (g2 : i < t.size), s[i] = t[i]

theorem pad_at (L x i : Nat) (h : i < (⟨(pad L x).toArray⟩ : ByteArray).size) : (⟨(pad L x).toArray⟩ : ByteArray)[i] = Lib.dg x (L - 1 - i) := by
  have hi : i < L := by rw [sz, pad_length] at h; exact h
  show (pad L x).toArray[i] = _
  rw [List.getElem_toArray, pad_get _ _ _ hi]

theorem lt_pad (L x y : Nat) (hx : x < 10 ^ L) (hy : y < 10 ^ L) (hxy : x < y) : Lt ⟨(pad L x).toArray⟩ ⟨(pad L y).toArray⟩ L := by
  have e1 : (⟨(pad L x).toArray⟩ : ByteArray).size = L := by rw [sz, pad_length]
  have e2 : (⟨(pad L y).toArray⟩ : ByteArray).size = L := by rw [sz, pad_length]
  refine ⟨e1, e2, fun j h1 h2 hall hne => ?_, fun hall => ?_⟩
  · rw [pad_at, pad_at] at hne ⊢
    refine first_lt L x y hx hy hxy j (by omega) (fun t ht => ?_) hne
    have := hall t (by omega) (by omega) ht
    rwa [pad_at, pad_at] at this
  · refine some_differs L x y hx hy hxy (fun t ht => ?_)
    have := hall t (by omega) (by omega)
    rwa [pad_at, pad_at] at this

set_option maxHeartbeats 800000 in
set_option maxRecDepth 100000 in
theorem less (s t : ByteArray) (L : Nat) (w : World) (hL : L ≤ 19) (h : Lt s t L) :
    Calls Tryd.prog 12 #[.string s, .string t] w fun e w' => e = .returned (.bool true) ∧ Below w.heap.size w w' := by
  have hs := h.ls
  have ht := h.lt
  have H := Lib.hid h
  have hs1 : s.size ≤ 19 := by omega
  have hst : ¬ (t.size : Int) < (s.size : Int) := by omega
  have HT := Lib.hid ht
  have HS := Lib.hid hs
  clear ht hs h
  go_enter Tryd.func12, Tryd.ntmps12
  go_wp2
  go_loopg [6] s.size (fun k i wr => ∃ j n, k = s.size - j ∧ j ≤ s.size ∧ i = .int .i64 j ∧ (∀ i (g1 : i < s.size) (g2 : i < t.size), i < j → s[i] = t[i]) ∧ wr = w.drewN n)
  case atStart => exact ⟨0, 0, rfl, Nat.zero_le _, rfl, fun i _ _ h => absurd h (Nat.not_lt_zero _), rfl⟩
  case round =>
    obtain ⟨j, n, hk, hj, rfl, hall, rfl⟩ := hrel
    by_cases hlt : j < s.size
    · have hlt2 : j < t.size := by rw [HT.out, ← HS.out]; exact hlt
      have g1 : (j : Int) < (s.size : Int) := by omega
      have g2 : (j : Int) < (t.size : Int) := by omega
      by_cases he : s[j] = t[j]
      · have hb : ((s[j].toNat : Int) != (t[j].toNat : Int)) = false := by rw [he]; simp
        have HA := Lib.hid hall
        have HE := Lib.hid he
        clear hall he
        go_wp2_with fail
        go_quiet (fail)
        go_wp2
        go_roundg (s.size - (j + 1))
        case measure => omega
        case rel =>
          refine ⟨j + 1, _, rfl, by omega, by go_num, fun i q1 q2 hi => ?_, rfl⟩
          by_cases e : i = j
          · subst e; exact HE.out
          · exact HA.out i q1 q2 (by omega)
      · have hb : ((s[j].toNat : Int) != (t[j].toNat : Int)) = true := by
          rw [bne_iff_ne]
          intro e
          exact he (UInt8.toNat_inj.1 (by omega))
        have hl := H.out.first j hlt hlt2 hall he
        have hl2 : (s[j].toNat : Int) < (t[j].toNat : Int) := by omega
        clear hall he hl
        go_wp2_with fail
        go_quiet (fail)
        go_wp2_with fail
        go_quiet (fail)
        go_wp2
        go_ret
        exact ⟨by simp, ⟨rfl, rfl, rfl, Nat.le_refl _, fun _ _ => rfl⟩⟩
    · exfalso
      obtain rfl : j = s.size := by omega
      exact H.out.differ (fun i q1 q2 => hall i q1 q2 q1)

end Go.Proofs.Qxb6003452aDoor
