import Derived.Test.Qxb6604758aDec
import Derived.RowKitTokens
namespace Go.Proofs.Qxb6604758a
open Go.RowKit
set_option linter.unusedVariables false
set_option linter.unusedSimpArgs false

def intOf : Value → Int | .int _ q => q | _ => 0

/-- The bytes of a slice. -/
def Cells (w : World) (g o : Nat) (l : List UInt8) : Prop := ∀ j, j < l.length → w.cell? ⟨g, o + j, none⟩ = some (.int .u8 ((l.getD j 0).toNat : Int))

set_option maxRecDepth 100000 in
/-- encoding/binary.Uvarint. -/
theorem uvarint (g o n cap : Nat) (l : List UInt8) (w : World) (hl : l.length = n) (hn : n ≤ 1048576) (hc : Cells w g o l) :
    Calls Try.prog 42 #[.slice (some ⟨g, o, none⟩) n cap] w fun e w' => e = .returned (.tuple #[.int .u64 (dec2 0 0 l).1, .int .i64 (dec2 0 0 l).2]) ∧ w' = w := by
  subst hl
  go_enter Try.func42, Try.ntmps42
  go_wp2
  go_loop [4, 5, 10] (fun x sh i => ∃ (k : Nat) (X : Int), k ≤ l.length ∧ k ≤ 10 ∧ i = .int .i64 k ∧ sh = .int .u64 (7 * k : Nat) ∧ x = .int .u64 X ∧ Hid (dec2 0 0 l = dec2 X k (l.drop k))) (fun _ _ i => l.length - (intOf i).toNat)
  case atStart => exact ⟨0, 0, by omega, by omega, rfl, rfl, rfl, rfl⟩
  case round =>
    obtain ⟨k, X, hk, hk10, rfl, rfl, rfl, HD⟩ := hrel
    by_cases hkl : k < l.length
    · have hcell := hc k hkl
      have hd := HD.out
      rw [drop_cons hkl] at hd
      have hb := (l.getD k 0).toNat_lt
      generalize l.getD k 0 = c at hcell hd hb
      have hmask := mask127 (c := (c.toNat : Int)) (by omega) (by omega)
      clear HD hc
      have HD : Hid (dec2 0 0 l = dec2 X k (c :: l.drop (k + 1))) := hd
      clear hd
      by_cases h10 : k = 10
      · subst h10
        have hv : Hid (dec2 0 0 l = (0, -11)) := by show _ = _; rw [HD.out]; simp [dec2]
        go_wp2
        go_ret2
        exact ⟨by rw [hv.out]; rfl, rfl⟩
      · by_cases h128 : c.toNat < 128
        · by_cases h9 : k = 9
          · subst h9
            by_cases h1 : 1 < c.toNat
            · have hv : Hid (dec2 0 0 l = (0, -10)) := by show _ = _; rw [HD.out]; simp [dec2, h128, h1]
              go_wp2
              go_ret2
              exact ⟨by rw [hv.out]; rfl, rfl⟩
            · have hw : IntKind.u64.wrap ((c.toNat : Int) * 9223372036854775808) = (c.toNat : Int) * 9223372036854775808 := IntWalk.u64_in _ ⟨by omega, by omega⟩
              have hv : Hid (dec2 0 0 l = (bits .or .u64 X ((c.toNat : Int) * 9223372036854775808), 10)) := by show _ = _; rw [HD.out]; simp [dec2, h128, h1, hw]
              go_wp2
              go_ret2
              exact ⟨by rw [hv.out]; rfl, rfl⟩
          · have hv : Hid (dec2 0 0 l = (bits .or .u64 X (IntKind.u64.wrap ((c.toNat : Int) * 2 ^ (7 * k))), (k : Int) + 1)) := by show _ = _; rw [HD.out]; simp [dec2, h128, h10, h9]
            go_wp2
            go_ret2
            exact ⟨by rw [hv.out]; rfl, rfl⟩
        · have hv : Hid (dec2 0 0 l = dec2 (bits .or .u64 X (IntKind.u64.wrap ((c.toNat : Int) % 128 * 2 ^ (7 * k)))) (k + 1) (l.drop (k + 1))) := by show _ = _; rw [HD.out]; simp [dec2, h128, h10]
          go_wp2
          go_round
          case rel => exact ⟨k + 1, _, by omega, by omega, by go_num, by go_num, rfl, hv.out⟩
          case measure => simp [intOf]; omega
    · have hv : Hid (dec2 0 0 l = (0, 0)) := by show _ = _; rw [HD.out, List.drop_eq_nil_of_le (by omega)]; rfl
      go_wp2
      go_ret2
      exact ⟨by rw [hv.out]; rfl, rfl⟩

/-- The law's own reader's answer at place p. -/
def zres (l : List UInt8) (p : Nat) : Int × Int × Bool := match dec 0 0 (l.drop p) with | some (v, k) => (v, (p : Int) + k, true) | none => (0, p, false)

set_option maxRecDepth 100000 in
/-- zzUvarint. -/
theorem zuv (g o n cap p : Nat) (l : List UInt8) (w : World) (hl : l.length = n) (hn : n ≤ 1048576) (hp : p ≤ n) (hc : Cells w g o l) :
    Calls Try.prog 23 #[.slice (some ⟨g, o, none⟩) n cap, .int .i64 p] w fun e w' => e = .returned (.tuple #[.int .u64 (zres l p).1, .int .i64 (zres l p).2.1, .bool (zres l p).2.2]) ∧ w' = w := by
  subst hl
  go_enter Try.func23, Try.ntmps23
  go_wp2
  go_loop [7, 8, 9] (fun x sh i => ∃ (k : Nat) (X : Int), p + k ≤ l.length ∧ k ≤ 10 ∧ i = .int .i64 k ∧ sh = .int .u64 (7 * k : Nat) ∧ x = .int .u64 X ∧ Hid (dec 0 0 (l.drop p) = dec X k (l.drop (p + k)))) (fun _ _ i => l.length - p - (intOf i).toNat)
  case atStart => exact ⟨0, 0, by omega, by omega, rfl, rfl, rfl, rfl⟩
  case round =>
    obtain ⟨k, X, hk, hk10, rfl, rfl, rfl, HD⟩ := hrel
    by_cases hkl : p + k < l.length
    · have hcell := hc (p + k) hkl
      have hd := HD.out
      rw [drop_cons hkl] at hd
      have hb := (l.getD (p + k) 0).toNat_lt
      generalize l.getD (p + k) 0 = c at hcell hd hb
      have hmask := mask127 (c := (c.toNat : Int)) (by omega) (by omega)
      clear HD hc
      have HD : Hid (dec 0 0 (l.drop p) = dec X k (c :: l.drop (p + k + 1))) := hd
      clear hd
      by_cases h10 : k = 10
      · subst h10
        have hv : Hid (zres l p = (0, (p : Int), false)) := by show _ = _; unfold zres; rw [HD.out]; simp [dec]
        go_wp2
        go_ret3
        exact ⟨by rw [hv.out]; rfl, rfl⟩
      · by_cases h128 : c.toNat < 128
        · by_cases h9 : k = 9
          · subst h9
            by_cases h1 : 1 < c.toNat
            · have hv : Hid (zres l p = (0, (p : Int), false)) := by show _ = _; unfold zres; rw [HD.out]; simp [dec, h128, h1]
              go_wp2
              go_ret3
              exact ⟨by rw [hv.out]; rfl, rfl⟩
            · have hw : IntKind.u64.wrap ((c.toNat : Int) * 9223372036854775808) = (c.toNat : Int) * 9223372036854775808 := IntWalk.u64_in _ ⟨by omega, by omega⟩
              have hv : Hid (zres l p = (bits .or .u64 X ((c.toNat : Int) * 9223372036854775808), (p : Int) + 10, true)) := by show _ = _; unfold zres; rw [HD.out]; simp [dec, h128, h1, hw]
              go_wp2
              go_ret3
              exact ⟨by rw [hv.out]; simp; omega, rfl⟩
          · have hv : Hid (zres l p = (bits .or .u64 X (IntKind.u64.wrap ((c.toNat : Int) * 2 ^ (7 * k))), (p : Int) + k + 1, true)) := by show _ = _; unfold zres; rw [HD.out]; simp [dec, h128, h10, h9]; omega
            go_wp2
            go_ret3
            exact ⟨by rw [hv.out]; rfl, rfl⟩
        · have hv : Hid (dec 0 0 (l.drop p) = dec (bits .or .u64 X (IntKind.u64.wrap ((c.toNat : Int) % 128 * 2 ^ (7 * k)))) (k + 1) (l.drop (p + (k + 1)))) := by show _ = _; rw [HD.out]; simp [dec, h128, h10, Nat.add_assoc]
          go_wp2
          go_round
          case rel => exact ⟨k + 1, _, by omega, by omega, by go_num, by go_num, rfl, hv.out⟩
          case measure => simp [intOf]; omega
    · have hv : Hid (zres l p = (0, (p : Int), false)) := by show _ = _; unfold zres; rw [HD.out, List.drop_eq_nil_of_le (by omega)]; rfl
      go_wp2
      go_ret3
      exact ⟨by rw [hv.out]; rfl, rfl⟩

end Go.Proofs.Qxb6604758a
