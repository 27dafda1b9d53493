import Derived.Test.Qxb6003464aList
namespace Go.Proofs.Qxb6003464a
open Go.RowKit
set_option linter.unusedVariables false
set_option linter.unusedSimpArgs false

/-- A slice of slices of int8 that came in, nil or empty ones too. -/
def RowsIn (w : World) (v : Value) (R : Nat) (L : Nat → Nat) : Prop :=
  ∃ a c, v = .slice a R c ∧ ∀ r, r < R → ∃ b off x f, a = some ⟨b, off, none⟩ ∧ b < w.heap.size ∧ w.cell? ⟨b, off + r, none⟩ = some x ∧ Ints .i8 w x (L r) f

theorem RowsIn.rows {w : World} {v : Value} {R : Nat} {L : Nat → Nat} (h : RowsIn w v R L) (hR : 0 < R) : Rows8 w v R L := by
  obtain ⟨a, c, hv, hr⟩ := h
  obtain ⟨b, off, _, _, ha, hb, _, _⟩ := hr 0 hR
  subst ha
  refine ⟨b, off, c, hv, hb, fun r hr' => ?_⟩
  obtain ⟨b', off', x, f, ha', _, hx, hi⟩ := hr r hr'
  simp only [Option.some.injEq, Addr.mk.injEq] at ha'
  obtain ⟨rfl, rfl, _⟩ := ha'
  exact ⟨x, f, hx, hi⟩

/-- What the bound on the total length answers, and what its yes says. -/
def BytesOk (R n : Nat) (L : Nat → Nat) (w : World) (e : Ending) (w' : World) : Prop :=
  ∃ b, e = .returned (.bool b) ∧ w' = w ∧ (b = true → n ≤ 1048576 ∧ R + S L R ≤ 1048576)

def SomeInt (w : World) (e : Ending) (w' : World) : Prop := ∃ t, e = .returned (.int .i64 t) ∧ w' = w

theorem all_succ {L : Nat → Nat} {j N : Nat} (h : ∀ r, r < j → L r ≤ N) (hj : L j ≤ N) : ∀ r, r < j + 1 → L r ≤ N := by
  intro r hr
  by_cases e : r = j
  · rw [e]; exact hj
  · exact h r (by omega)

set_option maxHeartbeats 1600000 in
set_option maxRecDepth 1000000 in
theorem zzBytes_any (v : Value) (R n : Nat) (ea : Option Addr) (ec : Nat) (L : Nat → Nat) (k g : Int) (w : World) (hR : R ≤ maxLen) (hn : n ≤ maxLen) (hL : ∀ r, r < R → L r ≤ maxLen) (h : RowsIn w v R L) :
    Calls Try.prog 29 #[v, .slice ea n ec, .int .i64 k, .int .i8 g] w fun e w' => BytesOk R n L w e w' := by
  obtain ⟨a, c, rfl, hr⟩ := h
  unfold maxLen at hR hn hL
  by_cases hR2 : R ≤ 1048576
  · go_enter Try.func29, Try.ntmps29
    go_wp2_with fail
    go_loopg [9, 10] R (fun m zn i wr => ∃ j, m = R - j ∧ j ≤ R ∧ i = .int .i64 j ∧ zn = .int .i64 ((R : Int) + (S L j : Int)) ∧ (R : Int) + (S L j : Int) ≤ 1048576 ∧ (∀ r, r < j → L r ≤ 1048576) ∧ wr = w)
    case atStart => exact ⟨0, rfl, Nat.zero_le _, rfl, by simp [S], by simp [S]; omega, fun r hr => absurd hr (Nat.not_lt_zero _), rfl⟩
    case round =>
      obtain ⟨j, hm, hj, rfl, rfl, hs, hall, rfl⟩ := hrel
      by_cases hlt : j < R
      · obtain ⟨b, off, x, f, rfl, hb, hx, hi⟩ := hr j hlt
        obtain ⟨xa, xc, rfl, _⟩ := hi
        have hLj := hL j hlt
        have HA : Hid (∀ r, r < j → L r ≤ 1048576) := hall
        have HS : Hid ((S L (j + 1) : Int) = (S L j : Int) + (L j : Int)) := by show ((S L j + L j : Nat) : Int) = _; omega
        clear hr hL hall
        by_cases h1 : L j ≤ 1048576
        · by_cases h2 : (R : Int) + (S L j : Int) + (L j : Int) ≤ 1048576
          · go_wp2
            go_roundg (R - (j + 1))
            case measure => omega
            case rel => exact ⟨j + 1, rfl, by omega, by go_num, by rw [HS.out]; go_num, by rw [HS.out]; omega, all_succ HA.out h1, rfl⟩
          · go_wp2
            go_ret
            exact ⟨false, rfl, rfl, fun h => by cases h⟩
        · go_wp2
          go_ret
          exact ⟨false, rfl, rfl, fun h => by cases h⟩
      · obtain rfl : j = R := by omega
        have HA : Hid (∀ r, r < j → L r ≤ 1048576) := hall
        clear hall hr hL
        by_cases h1 : n ≤ 1048576
        · by_cases h2 : (j : Int) + (S L j : Int) + (n : Int) ≤ 1048576
          · go_wp2
            go_ret
            exact ⟨true, rfl, rfl, fun _ => ⟨h1, by omega⟩⟩
          · go_wp2
            go_ret
            exact ⟨false, rfl, rfl, fun h => by cases h⟩
        · go_wp2
          go_ret
          exact ⟨false, rfl, rfl, fun h => by cases h⟩
  · go_enter Try.func29, Try.ntmps29
    go_wp2
    go_ret
    exact ⟨false, rfl, rfl, fun h => by cases h⟩

set_option maxHeartbeats 1600000 in
set_option maxRecDepth 1000000 in
theorem b2Bytes_any (v : Value) (R n : Nat) (ea : Option Addr) (ec : Nat) (L : Nat → Nat) (w : World) (hR : R ≤ 1048576) (hn : n ≤ 1048576) (hS : S L R ≤ 1048576) (h : RowsIn w v R L) :
    Calls Try.prog 22 #[v, .slice ea n ec, .slice none 0 0, .slice none 0 0] w fun e w' => SomeInt w e w' := by
  obtain ⟨a, c, rfl, hr⟩ := h
  by_cases h0 : 24 * (R : Int) + 8 * (n : Int) ≤ 1048576
  · go_enter Try.func22, Try.ntmps22
    go_wp2_with fail
    go_loopg [9, 10] R (fun m zn i wr => ∃ j, m = R - j ∧ j ≤ R ∧ i = .int .i64 j ∧ zn = .int .i64 (24 * (R : Int) + 8 * (n : Int) + (S L j : Int)) ∧ wr = w)
    case atStart => exact ⟨0, rfl, Nat.zero_le _, rfl, by simp [S], rfl⟩
    case round =>
      obtain ⟨j, hm, hj, rfl, rfl, rfl⟩ := hrel
      have hmj := S_mono L hj
      by_cases hlt : j < R
      · obtain ⟨b, off, x, f, rfl, hb, hx, hi⟩ := hr j hlt
        obtain ⟨xa, xc, rfl, _⟩ := hi
        have hm2 := S_mono L (show j + 1 ≤ R by omega)
        have hm3 : S L (j + 1) = S L j + L j := rfl
        have hLj : (S L j : Int) + (L j : Int) ≤ 1048576 := by omega
        have HS : Hid ((S L (j + 1) : Int) = (S L j : Int) + (L j : Int)) := by show ((S L j + L j : Nat) : Int) = _; omega
        clear hr hm2 hm3
        by_cases h2 : 24 * (R : Int) + 8 * (n : Int) + (S L j : Int) + (L j : Int) ≤ 1048576
        · go_wp2
          go_roundg (R - (j + 1))
          case measure => omega
          case rel => exact ⟨j + 1, rfl, by omega, by go_num, by rw [HS.out]; go_num, rfl⟩
        · go_wp2
          go_ret
          exact ⟨_, rfl, rfl⟩
      · obtain rfl : j = R := by omega
        clear hr
        go_wp2
        go_ret
        exact ⟨_, rfl, rfl⟩
  · go_enter Try.func22, Try.ntmps22
    go_wp2
    go_ret
    exact ⟨_, rfl, rfl⟩

end Go.Proofs.Qxb6003464a
