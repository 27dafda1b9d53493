import Derived.Test.Qxb6003362aRows
import Derived.Test.Qxb6003362aPlain
import Derived.WalkKit
import Derived.Deep.LoopGhost
import Derived.Deep.Upon
namespace Go.Proofs.Qxb6003362a
open Go.RowKit
set_option linter.unusedVariables false

theorem Try.info5 : (Try.prog.info? 5).map (fun i => (i.zero, i.size, i.bytes)) = some (some (.int .u8 0), 1, 1) := by kernel_rfl

/-- Bytes as cells. -/
def bcells (l : List UInt8) : List Value := l.map fun b => Value.int .u8 b.toNat

theorem bcells_append (l m : List UInt8) : bcells (l ++ m) = bcells l ++ bcells m := by simp [bcells]
theorem bcells_length (l : List UInt8) : (bcells l).length = l.length := by simp [bcells]

theorem byte_ne {c d : UInt8} (h : ¬ c = d) : ((c.toNat : Int) == (d.toNat : Int)) = false := by
  rw [beq_eq_false_iff_ne]
  intro e
  exact h (UInt8.toNat_inj.1 (by omega))

theorem one_at (w : World) (v : Value) (t : TypeId) : ∀ (j : Nat) (u : Value), [v][j]? = some u → (w.alloc (.cells #[v] t)).cell? (Addr.add ⟨w.heap.size, 0, none⟩ j) = some u := by
  intro j u hj
  match j, hj with
  | 0, hj => simp at hj; subst hj; simp [Addr.add]
theorem one_one (n : Int) : ∀ u ∈ [Value.int .u8 n], u.oneCell' = true := by
  intro u hu; simp at hu; subst hu; rfl

set_option maxHeartbeats 1600000 in
set_option maxRecDepth 1000000 in
theorem esc_walk (ao : Option Addr) (b off len cap : Nat) (olds : List Value) (s : ByteArray) (q : Bool) (w : World) (hc : Came w 1 ao b off len cap olds)
    (hs : s.size ≤ 1048576) (hl : len ≤ 1048576) :
    Calls Try.prog 16 #[.slice ao len cap, .string s, .bool q] w fun e w' => ∃ v r, e = .returned v ∧ Upon w 5 1 ao b off len cap olds w' v (esc q s.data.toList).length (bcells (esc q s.data.toList)) r := by
  obtain ⟨i0, hi, hz0, hz1, hz2⟩ := info_parts Try.info5
  go_enter Try.func16, Try.ntmps16
  go_wp2
  go_loopg [0, 7] s.size (fun k d c wr => ∃ j r, k = s.size - j ∧ j ≤ s.size ∧ c = .int .i64 j ∧ Upon w 5 1 ao b off len cap olds wr d (esc q (s.data.toList.take j)).length (bcells (esc q (s.data.toList.take j))) r)
  case atStart => exact ⟨0, 0, rfl, Nat.zero_le _, rfl, by simpa [bcells, esc] using Upon.start (e := 5) hc⟩
  case round =>
    obtain ⟨j, r, hk, hj, rfl, hup⟩ := hrel
    by_cases hlt : j < s.size
    · have hlt2 : j < s.data.toList.length := by simpa using hlt
      have hts := esc_take_succ q hlt2
      have hge : s.data.toList[j] = s[j] := rfl
      have hbd := (esc_len q (s.data.toList.take j)).2
      have hbd2 : (s.data.toList.take j).length ≤ j := List.length_take_le _ _
      rw [hge] at hts
      have HT : Hid (esc q (s.data.toList.take (j + 1)) = esc q (s.data.toList.take j) ++ esc1 q s[j]) := hts
      clear hts hge
      have hbd3 : (esc q (s.data.toList.take j)).length ≤ 2097152 := by omega
      clear hbd hbd2
      by_cases c1 : s[j] = 92
      · have t1 : ((s[j].toNat : Int) == 92) = true := by rw [c1]; rfl
        have C1 : Hid (s[j] = 92) := c1
        clear c1
        go_wp2_with (at_builtin; refine wpList_append_upon _ rfl (.tmp 25) (.const (.string ⟨#[92, 92]⟩)) 22 9 rfl hc i0 (.int .u8 0) 1 Try.underlying22 hi hz0 hz1 hz2 rfl rfl hup _ 2 (byteCells ⟨#[92, 92]⟩) rfl (Src.ofString _ Try.underlying9 _) (by unfold maxLen; omega) (by omega) ?_)
        intro v' w' hup'
        go_wp2
        go_roundg (s.size - (j + 1))
        case measure => omega
        case rel =>
          refine ⟨j + 1, Upon.next len cap 1 (esc q (s.data.toList.take j)).length r 2, rfl, by omega, by go_num, ?_⟩
          rw [HT.out, esc1_bs q C1.out, bcells_append, List.length_append]
          exact hup'
      have t1 : ((s[j].toNat : Int) == 92) = false := byte_ne c1
      have C1 : Hid (¬ s[j] = 92) := c1
      clear c1
      by_cases c2 : s[j] = 10
      · have t2 : ((s[j].toNat : Int) == 10) = true := by rw [c2]; rfl
        have C2 : Hid (s[j] = 10) := c2
        clear c2
        go_wp2_with (at_builtin; refine wpList_append_upon _ rfl (.tmp 29) (.const (.string ⟨#[92, 110]⟩)) 22 9 rfl hc i0 (.int .u8 0) 1 Try.underlying22 hi hz0 hz1 hz2 rfl rfl hup _ 2 (byteCells ⟨#[92, 110]⟩) rfl (Src.ofString _ Try.underlying9 _) (by unfold maxLen; omega) (by omega) ?_)
        intro v' w' hup'
        go_wp2
        go_roundg (s.size - (j + 1))
        case measure => omega
        case rel =>
          refine ⟨j + 1, Upon.next len cap 1 (esc q (s.data.toList.take j)).length r 2, rfl, by omega, by go_num, ?_⟩
          rw [HT.out, esc1_nl q C2.out, bcells_append, List.length_append]
          exact hup'
      have t2 : ((s[j].toNat : Int) == 10) = false := byte_ne c2
      have C2 : Hid (¬ s[j] = 10) := c2
      clear c2
      by_cases c3 : s[j] = 34
      · have t3 : ((s[j].toNat : Int) == 34) = true := by rw [c3]; rfl
        have C3 : Hid (s[j] = 34) := c3
        clear c3
        cases q
        · go_wp2_with (at_builtin; refine wpList_append_upon _ rfl (.tmp 36) (.tmp 38) 22 22 rfl hc i0 (.int .u8 0) 1 Try.underlying22 hi hz0 hz1 hz2 rfl rfl (hup.alloc hc _) _ 1 [.int .u8 s[j].toNat] rfl (Src.ofSlice _ Try.underlying22 ⟨wr.heap.size, 0, none⟩ 1 1 _ rfl (one_at _ _ _) (one_one _)) (by unfold maxLen; omega) (by omega) ?_)
          intro v' w' hup'
          go_wp2
          go_roundg (s.size - (j + 1))
          case measure => omega
          case rel =>
            refine ⟨j + 1, Upon.next len cap 1 (esc false (s.data.toList.take j)).length r 1, rfl, by omega, by go_num, ?_⟩
            rw [HT.out, esc1_uq C3.out, bcells_append, List.length_append]
            exact hup'
        · go_wp2_with (at_builtin; refine wpList_append_upon _ rfl (.tmp 34) (.const (.string ⟨#[92, 34]⟩)) 22 9 rfl hc i0 (.int .u8 0) 1 Try.underlying22 hi hz0 hz1 hz2 rfl rfl hup _ 2 (byteCells ⟨#[92, 34]⟩) rfl (Src.ofString _ Try.underlying9 _) (by unfold maxLen; omega) (by omega) ?_)
          intro v' w' hup'
          go_wp2
          go_roundg (s.size - (j + 1))
          case measure => omega
          case rel =>
            refine ⟨j + 1, Upon.next len cap 1 (esc true (s.data.toList.take j)).length r 2, rfl, by omega, by go_num, ?_⟩
            rw [HT.out, esc1_qt C3.out, bcells_append, List.length_append]
            exact hup'
      have t3 : ((s[j].toNat : Int) == 34) = false := byte_ne c3
      have C3 : Hid (¬ s[j] = 34) := c3
      clear c3
      go_wp2_with (at_builtin; refine wpList_append_upon _ rfl (.tmp 19) (.tmp 21) 22 22 rfl hc i0 (.int .u8 0) 1 Try.underlying22 hi hz0 hz1 hz2 rfl rfl (hup.alloc hc _) _ 1 [.int .u8 s[j].toNat] rfl (Src.ofSlice _ Try.underlying22 ⟨wr.heap.size, 0, none⟩ 1 1 _ rfl (one_at _ _ _) (one_one _)) (by unfold maxLen; omega) (by omega) ?_)
      intro v' w' hup'
      go_wp2
      go_roundg (s.size - (j + 1))
      case measure => omega
      case rel =>
        refine ⟨j + 1, Upon.next len cap 1 (esc q (s.data.toList.take j)).length r 1, rfl, by omega, by go_num, ?_⟩
        rw [HT.out, esc1_no q C1.out C2.out C3.out, bcells_append, List.length_append]
        exact hup'
    · obtain rfl : j = s.size := by omega
      go_wp2
      go_ret
      exact ⟨_, _, rfl, by rw [List.take_of_length_le (by simp)] at hup; exact hup⟩

end Go.Proofs.Qxb6003362a
