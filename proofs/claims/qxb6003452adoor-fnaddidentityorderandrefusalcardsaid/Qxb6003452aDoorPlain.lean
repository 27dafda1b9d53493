import Derived.Lib.ItoaNum
import Derived.Lib.ParseIntB
import Derived.Lib.Repeat
namespace Go.Proofs.Qxb6003452aDoor
open Go.Lib

/-- Decimal digits alone. -/
def Dec (l : List UInt8) : Prop := ∀ c ∈ l, 48 ≤ c.toNat ∧ c.toNat ≤ 57
def decB (l : List UInt8) : Bool := l.all fun c => decide (48 ≤ c.toNat ∧ c.toNat ≤ 57)
theorem decB_iff (l : List UInt8) : decB l = true ↔ Dec l := by
  unfold decB Dec
  rw [List.all_eq_true]
  constructor
  · intro h c hc; exact of_decide_eq_true (h c hc)
  · intro h c hc; exact decide_eq_true (h c hc)

/-- The number that the digits write. -/
def dv (l : List UInt8) : Nat := l.foldl (fun a c => a * 10 + (c.toNat - 48)) 0

theorem dv_snoc (l : List UInt8) (c : UInt8) : dv (l ++ [c]) = dv l * 10 + (c.toNat - 48) := by simp [dv]
theorem dv_take_succ (l : List UInt8) (k : Nat) (h : k < l.length) : dv (l.take (k + 1)) = dv (l.take k) * 10 + (l[k].toNat - 48) := by
  rw [List.take_succ_eq_append_getElem h, dv_snoc]

theorem Dec.take {l : List UInt8} (h : Dec l) (k : Nat) : Dec (l.take k) := fun c hc => h c (List.mem_of_mem_take hc)
theorem Dec.get {l : List UInt8} (h : Dec l) (k : Nat) (hk : k < l.length) : 48 ≤ l[k].toNat ∧ l[k].toNat ≤ 57 := h _ (List.getElem_mem hk)

theorem dv_take_lt {l : List UInt8} (h : Dec l) : ∀ k, k ≤ l.length → dv (l.take k) < 10 ^ k := by
  intro k
  induction k with
  | zero => intro _; simp [dv]
  | succ k ih =>
    intro hk
    have h1 := ih (by omega)
    have h2 := h.get k (by omega)
    rw [dv_take_succ l k (by omega), Nat.pow_succ]
    omega
theorem dv_lt {l : List UInt8} (h : Dec l) : dv l < 10 ^ l.length := by
  have := dv_take_lt h l.length (Nat.le_refl _)
  rwa [List.take_of_length_le (Nat.le_refl _)] at this

/-- ParseUint reads the digits. -/
theorem parse_from (l : List UInt8) : ∀ (acc : Nat), Dec l → acc < 10 ^ (19 - l.length) → l.length ≤ 19 → parseUintM (2 ^ 64 - 1) acc l = .ok (l.foldl (fun a c => a * 10 + (c.toNat - 48)) acc) := by
  induction l with
  | nil => intro acc _ _ _; rfl
  | cons c r ih =>
    intro acc hd ha hl
    have hc := hd c (List.mem_cons_self)
    have hr : Dec r := fun x hx => hd x (List.mem_cons_of_mem _ hx)
    simp only [List.length_cons] at ha hl
    have hp : 10 ^ (19 - r.length) = 10 ^ (19 - (r.length + 1)) * 10 := by
      rw [← Nat.pow_succ]; congr 1; omega
    have h18 : 10 ^ (19 - (r.length + 1)) ≤ 10 ^ 18 := Nat.pow_le_pow_right (by decide) (by omega)
    have e18 : (10 : Nat) ^ 18 = 1000000000000000000 := by decide
    have e64 : (2 : Nat) ^ 64 - 1 = 18446744073709551615 := by decide
    rw [parseUintM, if_pos hc, if_neg (by omega), if_neg (by rw [e64]; omega)]
    rw [ih _ hr (by rw [hp]; omega) (by omega)]
    rfl
theorem parse_ok (l : List UInt8) (hd : Dec l) (h0 : l ≠ []) (hl : l.length ≤ 19) : parseUintB 64 l = .ok (dv l) := by
  unfold parseUintB
  rw [if_neg h0, parse_from l 0 hd (Nat.pow_pos (by decide)) hl]
  rfl

/-- x written with L digits. -/
def pad (L x : Nat) : List UInt8 := (List.range L).map fun t => dg x (L - 1 - t)

theorem pad_length (L x : Nat) : (pad L x).length = L := by simp [pad]
theorem pad_get (L x t : Nat) (h : t < L) : (pad L x)[t]'(by rw [pad_length]; exact h) = dg x (L - 1 - t) := by simp [pad]

theorem dg_toNat (x j : Nat) : (dg x j).toNat = 48 + x / 10 ^ j % 10 := by
  unfold dg
  have : x / 10 ^ j % 10 < 10 := Nat.mod_lt _ (by decide)
  rw [UInt8.toNat_ofNat_of_lt' (by show 48 + x / 10 ^ j % 10 < 256; omega)]

theorem pad_dec (L x : Nat) : Dec (pad L x) := by
  intro c hc
  obtain ⟨t, _, rfl⟩ := List.mem_map.1 hc
  rw [dg_toNat]
  have : x / 10 ^ (L - 1 - t) % 10 < 10 := Nat.mod_lt _ (by decide)
  omega

theorem pad_snoc (L x d : Nat) (hd : d < 10) : pad (L + 1) (x * 10 + d) = pad L x ++ [UInt8.ofNat (48 + d)] := by
  unfold pad
  rw [List.range_succ, List.map_append]
  congr 1
  · apply List.map_congr_left
    intro t ht
    have ht' : t < L := List.mem_range.1 ht
    rw [show L + 1 - 1 - t = (L - 1 - t) + 1 by omega, dg_succ]
    congr 1
    omega
  · simp only [List.map_cons, List.map_nil]
    rw [show L + 1 - 1 - L = 0 by omega]
    unfold dg
    congr 2
    rw [Nat.pow_zero, Nat.div_one]
    omega

theorem pad_take {l : List UInt8} (h : Dec l) : ∀ k, k ≤ l.length → pad k (dv (l.take k)) = l.take k := by
  intro k
  induction k with
  | zero => intro _; simp [pad]
  | succ k ih =>
    intro hk
    have h2 := h.get k (by omega)
    rw [dv_take_succ l k (by omega), pad_snoc _ _ _ (by omega), ih (by omega), List.take_succ_eq_append_getElem (by omega)]
    congr 2
    rw [show 48 + (l[k].toNat - 48) = l[k].toNat by omega]
    exact UInt8.ofNat_toNat
theorem pad_dv {l : List UInt8} (h : Dec l) : pad l.length (dv l) = l := by
  have := pad_take h l.length (Nat.le_refl _)
  rwa [List.take_of_length_le (Nat.le_refl _)] at this

theorem pow_le_of_nDigits : ∀ u, 10 ≤ u → 10 ^ (nDigits u - 1) ≤ u := by
  intro u
  induction u using Nat.strongRecOn with
  | _ u ih =>
    intro h
    rw [nDigits_big (by omega), Nat.add_sub_cancel]
    by_cases h2 : u / 10 < 10
    · rw [nDigits_small h2]; omega
    · have := ih (u / 10) (by omega) (by omega)
      have hp := nDigits_pos (u / 10)
      rw [show nDigits (u / 10) = nDigits (u / 10) - 1 + 1 by omega, Nat.pow_succ]
      omega

theorem nDigits_le (u L : Nat) (hL : 1 ≤ L) (h : u < 10 ^ L) : nDigits u ≤ L := by
  by_cases h2 : u < 10
  · rw [nDigits_small h2]; exact hL
  · have h3 := pow_le_of_nDigits u (by omega)
    rcases Nat.lt_or_ge L (nDigits u) with h4 | h4
    · exfalso
      have : 10 ^ L ≤ 10 ^ (nDigits u - 1) := Nat.pow_le_pow_right (by decide) (by omega)
      omega
    · exact h4
theorem nDigits_gt (u L : Nat) (h : 10 ^ L ≤ u) : L < nDigits u := by
  have h1 := lt_pow_nDigits u
  rcases Nat.lt_or_ge L (nDigits u) with h4 | h4
  · exact h4
  · exfalso
    have : 10 ^ nDigits u ≤ 10 ^ L := Nat.pow_le_pow_right (by decide) h4
    omega

theorem repeat_one (c : UInt8) : ∀ n, repeatL [c] n = List.replicate n c
  | 0 => rfl
  | n + 1 => by rw [repeatL, repeat_one c n]; rfl

theorem pad_eq (u L : Nat) (hL : 1 ≤ L) (h : u < 10 ^ L) : repeatL [48] (L - nDigits u) ++ decDigits u = pad L u := by
  have hn := nDigits_le u L hL h
  have hu := lt_pow_nDigits u
  have hlen : (repeatL [48] (L - nDigits u) ++ decDigits u).length = L := by
    rw [List.length_append, repeat_one, List.length_replicate, decDigits_eq]; simp; omega
  apply List.ext_getElem (by rw [hlen, pad_length])
  intro t h1 h2
  rw [pad_get _ _ _ (by rwa [pad_length] at h2)]
  have ht : t < L := by rwa [pad_length] at h2
  by_cases e : t < L - nDigits u
  · rw [List.getElem_append_left (by rw [repeat_one, List.length_replicate]; exact e)]
    simp only [repeat_one, List.getElem_replicate]
    unfold dg
    have hp : 10 ^ nDigits u ≤ 10 ^ (L - 1 - t) := Nat.pow_le_pow_right (by decide) (by omega)
    rw [Nat.div_eq_of_lt (by omega)]
    rfl
  · rw [List.getElem_append_right (by rw [repeat_one, List.length_replicate]; omega)]
    simp only [repeat_one, List.length_replicate, decDigits_eq, List.getElem_map, List.getElem_range]
    congr 1
    omega

/-! The order -/

/-- The number that the first j of L digits write. -/
theorem head_succ (L x j : Nat) (h : j < L) : x / 10 ^ (L - (j + 1)) = x / 10 ^ (L - j) * 10 + x / 10 ^ (L - 1 - j) % 10 := by
  have e : L - j = (L - (j + 1)) + 1 := by omega
  have e2 : L - 1 - j = L - (j + 1) := by omega
  rw [e2, e, Nat.pow_succ, ← Nat.div_div_eq_div_mul]
  omega

theorem heads_eq (L x y : Nat) (hx : x < 10 ^ L) (hy : y < 10 ^ L) : ∀ j, j ≤ L → (∀ t, t < j → dg x (L - 1 - t) = dg y (L - 1 - t)) → x / 10 ^ (L - j) = y / 10 ^ (L - j) := by
  intro j
  induction j with
  | zero => intro _ _; rw [Nat.sub_zero, Nat.div_eq_of_lt hx, Nat.div_eq_of_lt hy]
  | succ j ih =>
    intro hj hall
    have h1 := ih (by omega) (fun t ht => hall t (by omega))
    have h2 := congrArg UInt8.toNat (hall j (by omega))
    rw [dg_toNat, dg_toNat] at h2
    rw [head_succ L x j (by omega), head_succ L y j (by omega), h1]
    omega

theorem first_lt (L x y : Nat) (hx : x < 10 ^ L) (hy : y < 10 ^ L) (hxy : x < y) (j : Nat) (hj : j < L) (hall : ∀ t, t < j → dg x (L - 1 - t) = dg y (L - 1 - t)) (hne : dg x (L - 1 - j) ≠ dg y (L - 1 - j)) :
    (dg x (L - 1 - j)).toNat < (dg y (L - 1 - j)).toNat := by
  have h1 := heads_eq L x y hx hy j (by omega) hall
  have h2 : x / 10 ^ (L - (j + 1)) ≤ y / 10 ^ (L - (j + 1)) := Nat.div_le_div_right (Nat.le_of_lt hxy)
  rw [head_succ L x j hj, head_succ L y j hj, h1] at h2
  have h3 : (dg x (L - 1 - j)).toNat ≠ (dg y (L - 1 - j)).toNat := fun e => hne (UInt8.toNat_inj.1 e)
  rw [dg_toNat, dg_toNat] at h3 ⊢
  omega

theorem some_differs (L x y : Nat) (hx : x < 10 ^ L) (hy : y < 10 ^ L) (hxy : x < y) : ¬ ∀ t, t < L → dg x (L - 1 - t) = dg y (L - 1 - t) := by
  intro h
  have := heads_eq L x y hx hy L (Nat.le_refl _) h
  rw [Nat.sub_self, Nat.pow_zero, Nat.div_one, Nat.div_one] at this
  omega

end Go.Proofs.Qxb6003452aDoor
