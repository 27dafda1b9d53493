import Derived.Test.Qxb6003362aEsc
import Derived.Laws.BytesString
namespace Go.Proofs.Qxb6003362a
open Go.RowKit
set_option linter.unusedVariables false

theorem fold_push (l : List UInt8) (r : ByteArray) : (l.map fun b => (b.toNat : Int)).foldl (fun r n => r.push (UInt8.ofNat n.toNat)) r = ⟨r.data ++ l.toArray⟩ := by
  induction l generalizing r with
  | nil => simp
  | cons c l ih => simp only [List.map_cons, List.foldl_cons]; rw [ih]; simp [ByteArray.push]

/-- 'string(d)', the bytes of d known. -/
theorem conv_law (w : World) (a : Addr) (n c : Nat) (l : List UInt8) (hn : l.length = n) (hcell : ∀ j v, (bcells l)[j]? = some v → w.cell? (a.add j) = some v) :
    (convert 22 9 (.slice (some a) n c)).run Try.prog w = .ok (.string ⟨l.toArray⟩) w := by
  rw [run_convert_bytes_string w 22 9 5 _ _ _ Try.underlying22 Try.underlying5 Try.underlying9]
  have h1 := run_loadCells_list (P := Try.prog) w a (bcells l) hcell
  rw [bcells_length, hn] at h1
  rw [run_bytesToString w a n c (l.map fun b => (b.toNat : Int)) (by rw [h1]; simp [bcells])]
  rw [fold_push]
  simp

/-- The state of the loop behind j bytes of the text. -/
structure Un (B m : Nat) (l : List UInt8) (j : Nat) (w wr : World) : Prop where
  own : wr.ownsRow B 5 1 (.slice (some ⟨B, 0, none⟩) j m) j (bcells (l.take j))
  below : Below B w wr

theorem Un.next {B m : Nat} {l : List UInt8} {j : Nat} {w wr w' : World} (U : Un B m l j w wr) (hj : j < l.length) (o : Obj) (hB : B = w.heap.size)
    (hown : w'.ownsRow B 5 1 (.slice (some ⟨B, 0, none⟩) (j + 1) m) (j + 1) (bcells (l.take j) ++ [.int .u8 l[j].toNat])) (hg : (wr.alloc o).grownBy w' (some B)) : Un B m l (j + 1) w w' := by
  have hsz := U.below.size
  refine ⟨?_, ((U.below.alloc (by omega) o).grown hg (by simp; omega) (fun k hk => by simp at hk; omega))⟩
  rw [take_snoc hj, bcells_append]
  exact hown

theorem Un.conv {B m : Nat} {l : List UInt8} {w wr : World} (U : Un B m l l.length w wr) :
    (convert 22 9 (.slice (some ⟨B, 0, none⟩) l.length m)).run Try.prog wr = .ok (.string ⟨l.toArray⟩) wr := by
  refine conv_law wr ⟨B, 0, none⟩ _ _ l rfl fun j v hv => ?_
  have h := U.own.cells (g := B) rfl j v
  rw [List.take_of_length_le (Nat.le_refl _)] at h
  exact h hv

/-- The bytes that the round reads. -/
theorem un_cell {q : Bool} {m g o : Nat} {l : List UInt8} {j : Nat} {w wr : World} (U : Un w.heap.size m l j w wr) (hg : g < w.heap.size)
    (hcell : ∀ j v, (bcells (esc q l))[j]? = some v → w.cell? ⟨g, o + j, none⟩ = some v) (hlt : j < l.length) (t : Nat) (v : UInt8) (ht : (esc1 q l[j])[t]? = some v) :
    wr.cell? ⟨g, o + ((esc q (l.take j)).length + t), none⟩ = some (.int .u8 v.toNat) := by
  rw [U.below.cell (by exact hg)]
  refine hcell _ _ ?_
  have h1 : t < (esc1 q l[j]).length := (List.getElem?_eq_some_iff.1 ht).1
  have := esc_at q hlt t h1
  simp only [bcells, List.getElem?_map, this, ht]
  rfl

set_option maxHeartbeats 1600000 in
set_option maxRecDepth 1000000 in
theorem unesc_walk (eo : Option Addr) (g o m cap : Nat) (l : List UInt8) (q : Bool) (w : World) (hl : l.length ≤ 1048576) (hm : m = (esc q l).length)
    (hg0 : 0 < m → g < w.heap.size) (ho : 0 < m → eo = some ⟨g, o, none⟩) (hcell : ∀ j v, (bcells (esc q l))[j]? = some v → w.cell? ⟨g, o + j, none⟩ = some v) :
    Calls Try.prog 8 #[.slice eo m cap, .bool q] w fun e w' => e = .returned (.tuple #[.string ⟨l.toArray⟩, .bool true]) ∧ Below w.heap.size w w' := by
  obtain ⟨i0, hi, hz0, hz1, hz2⟩ := info_parts Try.info5
  have hlen := esc_len q l
  have hm1 : l.length ≤ m := by omega
  have hm2 : m ≤ 2097152 := by omega
  have HM : Hid (m = (esc q l).length) := hm
  clear hm hlen
  go_enter Try.func8, Try.ntmps8
  go_wp2_with (at_make; refine wpList_make_own _ rfl _ _ 22 rfl w.heap.size 5 i0 (.int .u8 0) 1 Try.underlying22 hi hz0 hz1 _ _ _ m rfl rfl rfl (by rw [hz2]; omega) (by unfold maxLen; omega) (Nat.le_refl _) ?_)
  intro w1 hown1 hg1
  have U0 : Un w.heap.size m l 0 w w1 := by
    exact ⟨by simpa [bcells] using hown1, (Below.refl _ _).grown hg1 (Nat.le_refl _) (fun k hk => by cases hk)⟩
  clear hown1 hg1
  go_wp2
  go_loopg [6, 7] l.length (fun k d i wr => ∃ j, k = l.length - j ∧ j ≤ l.length ∧ i = .int .i64 (esc q (l.take j)).length ∧ d = .slice (some ⟨w.heap.size, 0, none⟩) j m ∧ Un w.heap.size m l j w wr)
  case atStart => exact ⟨0, rfl, Nat.zero_le _, rfl, rfl, U0⟩
  case round =>
    clear U0
    obtain ⟨j, hk, hj, rfl, rfl, U⟩ := hrel
    by_cases hlt : j < l.length
    · have hts := esc_take_succ q hlt
      have hbd := esc_take_lt q hlt
      rw [← HM.out] at hbd
      have hl0 := esc1_len q l[j]
      have hg := hg0 (by omega)
      clear hl0 hg0
      have HC : ∀ t v, (esc1 q l[j])[t]? = some v → wr.cell? ⟨g, o + ((esc q (l.take j)).length + t), none⟩ = some (.int .u8 v.toNat) := fun t v => un_cell U hg hcell hlt t v
      have hl1 := esc1_len q l[j]
      obtain rfl := ho (by omega)
      have HT : Hid ((esc q (l.take (j + 1))).length = (esc q (l.take j)).length + (esc1 q l[j]).length) := by rw [hts, List.length_append]; rfl
      clear hts hcell ho
      generalize (esc q (l.take j)).length = p at *
      by_cases c1 : l[j] = 92
      · rw [esc1_bs q c1] at HC hbd
        have k0 : wr.cell? ⟨g, o + p, none⟩ = some (.int .u8 92) := HC 0 92 rfl
        have k1 : wr.cell? ⟨g, o + (p + 1), none⟩ = some (.int .u8 92) := HC 1 92 rfl
        have hbd' : p + 2 ≤ m := hbd
        have C1 : Hid (l[j] = 92) := c1
        clear HC hbd hl1 c1
        go_wp2_with (at_builtin; refine wpList_append_fits _ rfl (.tmp 48) (.tmp 49) 22 rfl w.heap.size 5 i0 1 Try.underlying22 hi hz1 w.heap.size j m _ rfl (U.own.alloc _) ⟨wr.heap.size, 0, none⟩ 1 1 [.int .u8 92] rfl rfl (one_at _ _ _) (one_one _) (by omega) ?_)
        intro w' hown' hg'
        have U' := U.next hlt _ rfl (by rw [C1.out]; exact hown') hg'
        clear hown' hg' U
        go_wp2
        go_roundg (l.length - (j + 1))
        case measure => omega
        case rel => exact ⟨j + 1, rfl, by omega, by rw [HT.out, esc1_bs q C1.out]; go_num, rfl, U'⟩
      have t1 : ((l[j].toNat : Int) == 92) = false := byte_ne c1
      have C1 : Hid (¬ l[j] = 92) := c1
      clear c1
      by_cases c2 : l[j] = 10
      · rw [esc1_nl q c2] at HC hbd
        have k0 : wr.cell? ⟨g, o + p, none⟩ = some (.int .u8 92) := HC 0 92 rfl
        have k1 : wr.cell? ⟨g, o + (p + 1), none⟩ = some (.int .u8 110) := HC 1 110 rfl
        have hbd' : p + 2 ≤ m := hbd
        have C2 : Hid (l[j] = 10) := c2
        clear HC hbd hl1 c2
        go_wp2_with (at_builtin; refine wpList_append_fits _ rfl (.tmp 53) (.tmp 54) 22 rfl w.heap.size 5 i0 1 Try.underlying22 hi hz1 w.heap.size j m _ rfl (U.own.alloc _) ⟨wr.heap.size, 0, none⟩ 1 1 [.int .u8 10] rfl rfl (one_at _ _ _) (one_one _) (by omega) ?_)
        intro w' hown' hg'
        have U' := U.next hlt _ rfl (by rw [C2.out]; exact hown') hg'
        clear hown' hg' U
        go_wp2
        go_roundg (l.length - (j + 1))
        case measure => omega
        case rel => exact ⟨j + 1, rfl, by omega, by rw [HT.out, esc1_nl q C2.out]; go_num, rfl, U'⟩
      have t2 : ((l[j].toNat : Int) == 10) = false := byte_ne c2
      have C2 : Hid (¬ l[j] = 10) := c2
      clear c2
      by_cases c3 : l[j] = 34
      · cases q
        · have t3 : ((l[j].toNat : Int) == 34) = true := by rw [c3]; rfl
          have C3 : Hid (l[j] = 34) := c3
          clear c3
          rw [esc1_uq C3.out] at HC hbd
          have k0 : wr.cell? ⟨g, o + p, none⟩ = some (.int .u8 l[j].toNat) := HC 0 l[j] rfl
          have hbd' : p + 1 ≤ m := hbd
          clear HC hbd hl1
          go_wp2_with (at_builtin; refine wpList_append_fits _ rfl (.tmp 31) (.tmp 33) 22 rfl w.heap.size 5 i0 1 Try.underlying22 hi hz1 w.heap.size j m _ rfl (U.own.alloc _) ⟨wr.heap.size, 0, none⟩ 1 1 [.int .u8 l[j].toNat] rfl rfl (one_at _ _ _) (one_one _) (by omega) ?_)
          intro w' hown' hg'
          have U' := U.next hlt _ rfl (hown') hg'
          clear hown' hg' U
          go_wp2
          go_roundg (l.length - (j + 1))
          case measure => omega
          case rel => exact ⟨j + 1, rfl, by omega, by rw [HT.out, esc1_uq C3.out]; go_num, rfl, U'⟩
        · rw [esc1_qt c3] at HC hbd
          have k0 : wr.cell? ⟨g, o + p, none⟩ = some (.int .u8 92) := HC 0 92 rfl
          have k1 : wr.cell? ⟨g, o + (p + 1), none⟩ = some (.int .u8 34) := HC 1 34 rfl
          have hbd' : p + 2 ≤ m := hbd
          have C3 : Hid (l[j] = 34) := c3
          clear HC hbd hl1 c3
          go_wp2_with (at_builtin; refine wpList_append_fits _ rfl (.tmp 60) (.tmp 61) 22 rfl w.heap.size 5 i0 1 Try.underlying22 hi hz1 w.heap.size j m _ rfl (U.own.alloc _) ⟨wr.heap.size, 0, none⟩ 1 1 [.int .u8 34] rfl rfl (one_at _ _ _) (one_one _) (by omega) ?_)
          intro w' hown' hg'
          have U' := U.next hlt _ rfl (by rw [C3.out]; exact hown') hg'
          clear hown' hg' U
          go_wp2
          go_roundg (l.length - (j + 1))
          case measure => omega
          case rel => exact ⟨j + 1, rfl, by omega, by rw [HT.out, esc1_qt C3.out]; go_num, rfl, U'⟩
      have t3 : ((l[j].toNat : Int) == 34) = false := byte_ne c3
      have C3 : Hid (¬ l[j] = 34) := c3
      clear c3
      rw [esc1_no q C1.out C2.out C3.out] at HC hbd
      have k0 : wr.cell? ⟨g, o + p, none⟩ = some (.int .u8 l[j].toNat) := HC 0 l[j] rfl
      have hbd' : p + 1 ≤ m := hbd
      clear HC hbd hl1
      go_wp2_with (at_builtin; refine wpList_append_fits _ rfl (.tmp 31) (.tmp 33) 22 rfl w.heap.size 5 i0 1 Try.underlying22 hi hz1 w.heap.size j m _ rfl (U.own.alloc _) ⟨wr.heap.size, 0, none⟩ 1 1 [.int .u8 l[j].toNat] rfl rfl (one_at _ _ _) (one_one _) (by omega) ?_)
      intro w' hown' hg'
      have U' := U.next hlt _ rfl (hown') hg'
      clear hown' hg' U
      go_wp2
      go_roundg (l.length - (j + 1))
      case measure => omega
      case rel => exact ⟨j + 1, rfl, by omega, by rw [HT.out, esc1_no q C1.out C2.out C3.out]; go_num, rfl, U'⟩
    · obtain rfl : j = l.length := by omega
      have hcv := U.conv
      have HE : Hid ((esc q (l.take l.length)).length = m) := by rw [List.take_of_length_le (Nat.le_refl _)]; exact HM.out.symm
      rw [HE.out]
      go_wp2
      go_ret2
      exact ⟨rfl, U.below⟩

end Go.Proofs.Qxb6003362a
