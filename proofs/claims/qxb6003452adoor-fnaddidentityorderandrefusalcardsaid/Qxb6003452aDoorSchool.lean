import Derived.Test.Qxb6003452aDoorAddNo
import Derived.Laws.BytesString
namespace Go.Proofs.Qxb6003452aDoor
open Go.RowKit
set_option linter.unusedVariables false

theorem Tryd.info5 : (Tryd.prog.info? 5).map (fun i => (i.zero, i.size, i.bytes)) = some (some (.int .u8 0), 1, 1) := by kernel_rfl

/-- What the copy holds behind j rounds. -/
def cp (l : List UInt8) (j i : Nat) : Value := if i < j then bval (l.getD i 0) else .int .u8 0
/-- What the sum's row holds when q places are still to come. -/
def sb (l : List UInt8) (x L q p : Nat) : Value := if p < q then bval (l.getD p 0) else bval (Lib.dg x (L - 1 - p))

theorem cp_step {w : World} {B n j : Nat} {l : List UInt8} (h : w.rowIs B 5 n (cp l j)) : (w.setCell ⟨B, j, none⟩ (bval (l.getD j 0))).rowIs B 5 n (cp l (j + 1)) := by
  refine (h.set j _).congr fun i hi => ?_
  unfold cp
  by_cases h1 : i = j
  · subst h1; simp
  · rw [if_neg h1]
    by_cases h2 : i < j
    · rw [if_pos h2, if_pos (by omega)]
    · rw [if_neg h2, if_neg (by omega)]
theorem sb_step {w : World} {B L x p : Nat} {l : List UInt8} (h : w.rowIs B 5 L (sb l x L (p + 1))) : (w.setCell ⟨B, p, none⟩ (bval (Lib.dg x (L - 1 - p)))).rowIs B 5 L (sb l x L p) := by
  refine (h.set p _).congr fun i hi => ?_
  unfold sb
  by_cases h1 : i = p
  · subst h1; simp
  · rw [if_neg h1]
    by_cases h2 : i < p
    · rw [if_pos h2, if_pos (by omega)]
    · rw [if_neg h2, if_neg (by omega)]

/-- One place of the addition. -/
theorem place {x L p v d c : Nat} (hp : p < L) (hd : d < 10) (hc : c + (v * 10 + d) = x / 10 ^ (L - (p + 1))) :
    (c / 10 + (d + c % 10) / 10) + v = x / 10 ^ (L - p) ∧ 48 + (d + c % 10) % 10 = (Lib.dg x (L - 1 - p)).toNat := by
  have e : x / 10 ^ (L - p) = x / 10 ^ (L - (p + 1)) / 10 := by
    rw [show L - p = (L - (p + 1)) + 1 by omega, Nat.pow_succ, Nat.div_div_eq_div_mul]
  rw [e, dg_toNat, show L - 1 - p = L - (p + 1) by omega, ← hc]
  omega

theorem fold_push (l : List UInt8) (r : ByteArray) : (l.map fun b => (b.toNat : Int)).foldl (fun r n => r.push (UInt8.ofNat n.toNat)) r = ⟨r.data ++ l.toArray⟩ := by
  induction l generalizing r with
  | nil => simp
  | cons c l ih => simp only [List.map_cons, List.foldl_cons]; rw [ih]; simp [ByteArray.push]

theorem conv_law (w : World) (B L : Nat) (l : List UInt8) (hl : l.length = L) (h : ∀ j, (hj : j < l.length) → w.cell? ⟨B, j, none⟩ = some (bval l[j])) :
    (convert 32 9 (.slice (some ⟨B, 0, none⟩) L L)).run Tryd.prog w = .ok (.string ⟨l.toArray⟩) w := by
  have h1 := run_convert_bytes_back (P := Tryd.prog) w 32 9 5 ⟨B, 0, none⟩ L l Tryd.underlying32 Tryd.underlying5 Tryd.underlying9 (fun j hj => by rw [Lib.add_plain, Nat.zero_add]; exact h j hj)
  rw [hl] at h1
  exact h1

set_option maxHeartbeats 1600000 in
set_option maxRecDepth 100000 in
theorem school (m : ByteArray) (n x : Nat) (w : World) (h1 : 1 ≤ m.size) (h19 : m.size ≤ 19) (hd : Dec m.data.toList) (hn : n < 18446744073709551616) (hx : x = dv m.data.toList + n) :
    Calls Tryd.prog 8 #[.string m, .int .u64 n] w fun e w' => e = .returned (.tuple #[.string ⟨(pad m.size x).toArray⟩, .bool (((x / 10 ^ m.size : Nat) : Int) == 0)]) ∧ Below w.heap.size w w' := by
  have hmk := run_make_row' (P := Tryd.prog) 32 5 (.int .u8 0) 1 Tryd.underlying32 Tryd.info5 rfl .i64 .i64 m.size (by omega) (by omega)
  have HD := Lib.hid hd
  have HX := Lib.hid hx
  clear hd hx
  go_enter Tryd.func8, Tryd.ntmps8
  go_wp2
  clear hmk
  go_loopg [7] m.size (fun k i wr => ∃ j, k = m.size - j ∧ j ≤ m.size ∧ i = .int .i64 j ∧ wr.rowIs w.heap.size 5 m.size (cp m.data.toList j) ∧ Below w.heap.size w wr)
  case atStart => exact ⟨0, rfl, Nat.zero_le _, rfl, (World.rowIs_made w _ _ _).congr (fun i hi => by simp [cp]), (Below.refl _ _).alloc (Nat.le_refl _) _⟩
  case round =>
    obtain ⟨j, hk, hj, rfl, hrow, hbel⟩ := hrel
    by_cases hlt : j < m.size
    · have hge : bval (m.data.toList.getD j 0) = .int .u8 (m[j].toNat : Int) := by
        have : m.data.toList.getD j 0 = m[j] := by rw [List.getD_eq_getElem?_getD, List.getElem?_eq_getElem (by simpa using hlt)]; rfl
        rw [this]
      have hcn := hrow.cell hlt
      have hfn := hrow.frozen j
      have HS := cp_step hrow
      have HB := hbel.setCell (p := ⟨w.heap.size, j, none⟩) (Nat.le_refl _) (bval (m.data.toList.getD j 0))
      rw [hge] at HS HB
      clear hrow hbel hge
      go_wp2
      go_roundg (m.size - (j + 1))
      case measure => omega
      case rel => exact ⟨j + 1, rfl, by omega, by go_num, HS, HB⟩
    · obtain rfl : j = m.size := by omega
      have h0 : wr.rowIs w.heap.size 5 m.size (sb m.data.toList x m.size m.size) := hrow.congr (fun i hi => by unfold sb cp; rw [if_pos hi, if_pos hi])
      clear hrow
      go_wp2
      go_loopg [8, 9] m.size (fun k c i wr => ∃ q cN : Nat, k = q ∧ q ≤ m.size ∧ i = .int .i64 ((q : Int) - 1) ∧ c = .int .u64 (cN : Int) ∧ cN < 18446744073709551616 ∧ cN + dv (m.data.toList.take q) = x / 10 ^ (m.size - q) ∧ wr.rowIs w.heap.size 5 m.size (sb m.data.toList x m.size q) ∧ Below w.heap.size w wr)
      case atStart =>
        refine ⟨m.size, n, rfl, Nat.le_refl _, by go_num, rfl, hn, ?_, h0, hbel⟩
        rw [List.take_of_length_le (by simp), Nat.sub_self, Nat.pow_zero, Nat.div_one, HX.out]
        omega
      case round =>
        clear h0 hbel
        obtain ⟨q, cN, hk2, hq, rfl, rfl, hcN, hinv, hrow, hbel⟩ := hrel
        have HI := Lib.hid hinv
        clear hinv
        cases q with
        | zero =>
          have hc0 : cN = x / 10 ^ m.size := by
            have := HI.out
            simpa [dv] using this
          have HC0 := Lib.hid hc0
          have hconv := conv_law wr w.heap.size m.size (pad m.size x) (pad_length _ _) (fun j hj => by
            have hj' : j < m.size := by rwa [pad_length] at hj
            rw [hrow.cell hj', pad_get _ _ _ hj']
            unfold sb
            rw [if_neg (by omega)])
          rw [show (((0 : Nat) : Int) - 1) = (-1 : Int) by omega]
          clear hrow HI hc0
          go_wp2
          go_ret2
          refine ⟨?_, hbel⟩
          rw [← HC0.out]
          rfl
        | succ p =>
          have hpl : p < m.data.toList.length := by simp; omega
          have hb := HD.out.get p hpl
          have hcn := hrow.cell (i := p) (by omega)
          have hfn := hrow.frozen p
          have hv : sb m.data.toList x m.size (p + 1) p = .int .u8 ((m.data.toList[p].toNat : Nat) : Int) := by
            unfold sb
            rw [if_pos (by omega), List.getD_eq_getElem?_getD, List.getElem?_eq_getElem hpl]
            rfl
          rw [hv] at hcn
          have hpl2 := place (x := x) (L := m.size) (p := p) (v := dv (m.data.toList.take p)) (d := m.data.toList[p].toNat - 48) (c := cN) (by omega) (by omega) (by rw [← HI.out, dv_take_succ _ _ hpl])
          rw [show (((p + 1 : Nat) : Int) - 1) = (p : Int) by omega]
          have hdd : m.data.toList[p].toNat = (m.data.toList[p].toNat - 48) + 48 := by omega
          generalize m.data.toList[p].toNat - 48 = d at *
          rw [hdd] at hcn
          have hd10 : d < 10 := by omega
          have HC := Lib.hid hpl2.1
          have hvv : bval (Lib.dg x (m.size - 1 - p)) = .int .u8 (48 + ((d : Int) + (cN : Int)) % 10) := by
            have := hpl2.2
            show Value.int .u8 _ = _
            congr 1
            omega
          have HS := sb_step hrow
          have HB := hbel.setCell (p := ⟨w.heap.size, p, none⟩) (Nat.le_refl _) (bval (Lib.dg x (m.size - 1 - p)))
          rw [hvv] at HS HB
          have hc64 : cN / 10 + (d + cN % 10) / 10 < 18446744073709551616 := by omega
          clear hrow hbel hpl2 hvv HI hv hdd hb
          go_wp2
          go_roundg p
          case measure => omega
          case rel => exact ⟨p, cN / 10 + (d + cN % 10) / 10, rfl, by omega, rfl, by go_num, hc64, HC.out, HS, HB⟩

end Go.Proofs.Qxb6003452aDoor
