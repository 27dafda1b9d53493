import Derived.Test.Qxb6604758aTab
import Derived.OpenShut
/-
  The unsigned LEB128 number: the plain decoder, and the two Go functions that read one.
-/
namespace Go.Proofs.Qxb6604758a
open Go.RowKit
set_option linter.unusedVariables false

/-- What is read from byte i on, x gathered so far: the number, and the count of bytes taken in all. -/
def dec (x : Int) (i : Nat) : List UInt8 → Option (Int × Nat)
  | [] => none
  | c :: cs =>
    if i = 10 then none
    else if c.toNat < 128 then (if i = 9 ∧ 1 < c.toNat then none else some (bits .or .u64 x (IntKind.u64.wrap ((c.toNat : Int) * 2 ^ (7 * i))), i + 1))
    else dec (bits .or .u64 x (IntKind.u64.wrap ((c.toNat : Int) % 128 * 2 ^ (7 * i)))) (i + 1) cs

/-- The same with the library's own sign for a failure. -/
def dec2 (x : Int) (i : Nat) : List UInt8 → Int × Int
  | [] => (0, 0)
  | c :: cs =>
    if i = 10 then (0, -((i : Int) + 1))
    else if c.toNat < 128 then (if i = 9 ∧ 1 < c.toNat then (0, -((i : Int) + 1)) else (bits .or .u64 x (IntKind.u64.wrap ((c.toNat : Int) * 2 ^ (7 * i))), (i : Int) + 1))
    else dec2 (bits .or .u64 x (IntKind.u64.wrap ((c.toNat : Int) % 128 * 2 ^ (7 * i)))) (i + 1) cs

theorem dec2_some : ∀ (l : List UInt8) (x : Int) (i : Nat) (v : Int) (k : Nat), dec x i l = some (v, k) → dec2 x i l = (v, (k : Int))
  | [], x, i, v, k, h => by simp [dec] at h
  | c :: cs, x, i, v, k, h => by
    unfold dec at h
    unfold dec2
    by_cases h10 : i = 10
    · simp [h10] at h
    · rw [if_neg h10] at h ⊢
      by_cases hc : c.toNat < 128
      · rw [if_pos hc] at h ⊢
        by_cases h9 : i = 9 ∧ 1 < c.toNat
        · simp [h9] at h
        · rw [if_neg h9] at h ⊢
          simp only [Option.some.injEq, Prod.mk.injEq] at h
          simp only [Prod.mk.injEq]
          exact ⟨h.1, by omega⟩
      · rw [if_neg hc] at h ⊢
        exact dec2_some cs _ _ v k h

theorem dec2_none : ∀ (l : List UInt8) (x : Int) (i : Nat), dec x i l = none → (dec2 x i l).2 ≤ 0
  | [], x, i, h => by simp [dec2]
  | c :: cs, x, i, h => by
    unfold dec at h
    unfold dec2
    by_cases h10 : i = 10
    · rw [if_pos h10]; show -((i : Int) + 1) ≤ 0; omega
    · rw [if_neg h10] at h ⊢
      by_cases hc : c.toNat < 128
      · rw [if_pos hc] at h ⊢
        by_cases h9 : i = 9 ∧ 1 < c.toNat
        · rw [if_pos h9]; show -((i : Int) + 1) ≤ 0; omega
        · rw [if_neg h9] at h
          cases h
      · rw [if_neg hc] at h ⊢
        exact dec2_none cs _ _ h

theorem wf_u64 {z : Int} (h : (Lit.int .u64 z).wf = true) : 0 ≤ z ∧ z < 18446744073709551616 := by
  simp [Lit.wf, IntKind.min, IntKind.max, IntKind.bits, IntKind.signed] at h
  omega

theorem dec_le : ∀ (l : List UInt8) (x : Int) (i : Nat) (v : Int) (k : Nat), dec x i l = some (v, k) → i < k ∧ k ≤ i + l.length ∧ 0 ≤ v ∧ v < 18446744073709551616
  | [], x, i, v, k, h => by simp [dec] at h
  | c :: cs, x, i, v, k, h => by
    unfold dec at h
    by_cases h10 : i = 10
    · simp [h10] at h
    · rw [if_neg h10] at h
      by_cases hc : c.toNat < 128
      · rw [if_pos hc] at h
        by_cases h9 : i = 9 ∧ 1 < c.toNat
        · simp [h9] at h
        · rw [if_neg h9] at h
          simp only [Option.some.injEq, Prod.mk.injEq] at h
          have := wf_u64 (wf_bits .or .u64 x (IntKind.u64.wrap ((c.toNat : Int) * 2 ^ (7 * i))))
          rw [h.1] at this
          simp only [List.length_cons]
          omega
      · rw [if_neg hc] at h
        have := dec_le cs _ _ v k h
        simp only [List.length_cons]
        omega

theorem drop_cons {l : List UInt8} {k : Nat} (hk : k < l.length) : l.drop k = l.getD k 0 :: l.drop (k + 1) := by
  rw [List.drop_eq_getElem_cons hk]
  simp [List.getD_eq_getElem?_getD, List.getElem?_eq_getElem hk]

theorem mask127 {c : Int} (h₀ : 0 ≤ c) (h₁ : c ≤ 255) : bits .and .u8 c 127 = c % 128 := bits_mask .u8 8 (by decide) wraps_u8 7 (by decide) c h₀ (by omega)

end Go.Proofs.Qxb6604758a
