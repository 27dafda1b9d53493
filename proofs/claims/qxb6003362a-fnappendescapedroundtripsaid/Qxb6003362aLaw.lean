import Derived.Test.Qxb6003362aBel
namespace Go.Proofs.Qxb6003362a
open Go.RowKit
set_option linter.unusedVariables false

set_option maxHeartbeats 800000 in
set_option maxRecDepth 1000000 in
theorem bytes_yes (a : Option Addr) (len cap : Nat) (s : ByteArray) (q : Bool) (w : World) (h : len + s.size ≤ 1048576) :
    Calls Try.prog 5 #[.slice a len cap, .string s, .bool q] w fun e w' => e = .returned (.bool true) ∧ w' = w := by
  go_enter Try.func5, Try.ntmps5
  go_wp2
  go_ret
  exact ⟨rfl, rfl⟩

set_option maxHeartbeats 800000 in
set_option maxRecDepth 1000000 in
theorem bytes_no (a : Option Addr) (len cap : Nat) (s : ByteArray) (q : Bool) (w : World) (h : 1048576 < len + s.size) (hl : len ≤ maxLen) (hs : s.size ≤ maxLen) :
    Calls Try.prog 5 #[.slice a len cap, .string s, .bool q] w fun e w' => e = .returned (.bool false) ∧ w' = w := by
  unfold maxLen at hl hs
  by_cases h1 : 1048576 < len
  · go_enter Try.func5, Try.ntmps5
    go_wp2
    go_ret
    exact ⟨rfl, rfl⟩
  · by_cases h2 : 1048576 < s.size
    · go_enter Try.func5, Try.ntmps5
      go_wp2
      go_ret
      exact ⟨rfl, rfl⟩
    · go_enter Try.func5, Try.ntmps5
      go_wp2
      go_ret
      exact ⟨rfl, rfl⟩

set_option maxHeartbeats 800000 in
set_option maxRecDepth 1000000 in
theorem law_big (a : Option Addr) (len cap : Nat) (s : ByteArray) (q : Bool) (w : World) (h : 1048576 < len + s.size) (hl : len ≤ maxLen) (hs : s.size ≤ maxLen) :
    Calls Try.prog 3 #[.slice a len cap, .string s, .bool q] w fun e w' => e = .returned (.bool true) ∧ Bel w.heap.size w w' := by
  go_enter Try.func3, Try.ntmps3
  go_wp2_with fail
  refine (bytes_no a len cap s q _ h hl hs).mono ?_
  rintro e w1 ⟨rfl, rfl⟩
  go_wp2
  go_ret
  exact ⟨rfl, Bel.of (Below.refl _ _)⟩

set_option maxHeartbeats 800000 in
set_option maxRecDepth 1000000 in
theorem zzesc (ao : Option Addr) (b off len cap : Nat) (olds : List Value) (s : ByteArray) (q : Bool) (w : World) (hc : Came w 1 ao b off len cap olds)
    (hs : s.size ≤ 1048576) (hl : len ≤ 1048576) :
    Calls Try.prog 7 #[.slice ao len cap, .string s, .bool q] w fun e w' => ∃ v r, e = .returned v ∧ Upon w 5 1 ao b off len cap olds w' v (esc q s.data.toList).length (bcells (esc q s.data.toList)) r := by
  go_enter Try.func7, Try.ntmps7
  go_wp2_with fail
  refine (esc_walk ao b off len cap olds s q _ hc hs hl).mono ?_
  rintro e w1 ⟨v, r, rfl, hu⟩
  go_wp2
  go_ret
  exact ⟨v, r, rfl, hu⟩

theorem unesc_str (eo : Option Addr) (g o m cap : Nat) (s : ByteArray) (q : Bool) (w : World) (hl : s.size ≤ 1048576) (hm : m = (esc q s.data.toList).length)
    (hg0 : 0 < m → g < w.heap.size) (ho : 0 < m → eo = some ⟨g, o, none⟩) (hcell : ∀ j v, (bcells (esc q s.data.toList))[j]? = some v → w.cell? ⟨g, o + j, none⟩ = some v) :
    Calls Try.prog 8 #[.slice eo m cap, .bool q] w fun e w' => e = .returned (.tuple #[.string s, .bool true]) ∧ Below w.heap.size w w' :=
  unesc_walk eo g o m cap s.data.toList q w (by simpa using hl) hm hg0 ho hcell

theorem icells_at {zs : List Int} {len j : Nat} (h : j < (icells zs len).length) : (icells zs len)[j]? = some (.int .u8 (zs.getD j 0)) := by
  simp only [icells, List.length_map, List.length_take] at h
  simp only [icells, List.getElem?_map, List.getElem?_take, if_pos (show j < len by omega), List.getElem?_eq_getElem (show j < zs.length by omega), List.getD_eq_getElem?_getD]
  rfl

/-- Behind the call of appendEscaped where something was appended: the cells of out, of b. -/
theorem out_old {W w : World} {bo : Option Addr} {B len g c' M j : Nat} {zs : List Int} {ks : List Value} {v : Value} {r : Nat} (hcame : Came W 1 bo B 0 len len (icells zs len)) (hlt : j < len)
    (hown : OwnAt W w 1 g c' (len + M) (icells zs len ++ ks)) (hb : Bel W.heap.size W w) :
    w.cell? ⟨g, j, none⟩ = some (.int .u8 (zs.getD j 0)) ∧ w.cell? ⟨B, j, none⟩ = some (.int .u8 (zs.getD j 0)) := by
  have hl := hcame.oldsLen
  have h1 := icells_at (zs := zs) (len := len) (j := j) (by omega)
  refine ⟨?_, ?_⟩
  · rw [hown.holds j (by omega), List.getElem?_append_left (by omega), h1]
  · rw [hb.cell (hcame.lt (by omega))]
    have := hcame.olds j _ h1
    rwa [Nat.zero_add] at this

theorem out_new {W w : World} {bo : Option Addr} {B len g c' M : Nat} {zs : List Int} {ks : List Value} (hcame : Came W 1 bo B 0 len len (icells zs len))
    (hown : OwnAt W w 1 g c' (len + M) (icells zs len ++ ks)) (hk : ks.length = M) : ∀ j v, ks[j]? = some v → w.cell? ⟨g, len + j, none⟩ = some v := by
  intro j v hj
  have hl := hcame.oldsLen
  have := (List.getElem?_eq_some_iff.1 hj).1
  rw [hown.holds _ (by omega), List.getElem?_append_right (by omega)]
  rw [← hj]
  congr 1; omega

set_option maxHeartbeats 1600000 in
set_option maxRecDepth 1000000 in
theorem law_small (a : Option Addr) (len cap : Nat) (zs : List Int) (s : ByteArray) (q : Bool) (w : World) (hsum : len + s.size ≤ 1048576)
    (h : (a = none ∧ len = 0 ∧ cap = 0 ∧ zs = []) ∨
      ∃ x, a = some x ∧ len ≤ cap ∧ cap ≤ maxLen ∧ zs.length = cap ∧ (∀ i, i < zs.length → w.cell? (x.add i) = some (.int .u8 (zs.getD i 0))) ∧ ∀ n ∈ zs, (Lit.int .u8 n).wf = true) :
    Calls Try.prog 3 #[.slice a len cap, .string s, .bool q] w fun e w' => e = .returned (.bool true) ∧ Bel w.heap.size w w' := by
  have CL := clone_any a len cap zs w (by omega) h
  have HCL : Hid (Calls Try.prog 6 #[.slice a len cap] w fun e w' => ∃ bo, e = .returned (.slice bo len len) ∧ Came w' 1 bo w.heap.size 0 len len (icells zs len) ∧ Bel w.heap.size w w') := CL
  clear CL h
  go_enter Try.func3, Try.ntmps3
  go_wp2_with fail
  refine (bytes_yes a len cap s q _ hsum).mono ?_
  rintro e w ⟨rfl, rfl⟩
  go_wp2_with fail
  refine (HCL.out).mono ?_
  rintro e w1 ⟨bo, rfl, hcame, hbel⟩
  go_wp2_with fail
  refine (zzesc bo _ _ _ _ _ s q _ hcame (by omega) (by omega)).mono ?_
  rintro e w2 ⟨v, r, rfl, hu⟩
  obtain ⟨vo, vc, rfl⟩ := hu.shape
  have hb2 := Bel.of_upon hu
  rcases hu.val with ⟨hle, hv, hr⟩ | ⟨hgt, g, c', hv, hown⟩
  · -- nothing was appended
    simp only [Value.slice.injEq] at hv
    obtain ⟨rfl, -, h3⟩ := hv
    have h4 := h3.symm
    subst h4
    have hM : (esc q s.data.toList).length = 0 := by omega
    have HM : Hid ((esc q s.data.toList).length = 0) := hM
    have hkz : bcells (esc q s.data.toList) = [] := List.eq_nil_of_length_eq_zero (by rw [bcells_length]; exact hM)
    rw [hM, Nat.add_zero]
    have HK : Hid (bcells (esc q s.data.toList) = []) := hkz
    have hcell : ∀ j, j < len → w2.cell? ⟨w.heap.size, j, none⟩ = some (.int .u8 (zs.getD j 0)) := fun j hj => by
      rw [hb2.cell (hcame.lt (by omega))]
      have := hcame.olds j _ (icells_at (by have := hcame.oldsLen; omega))
      rwa [Nat.zero_add] at this
    clear hM hkz hr hu
    go_wp2_with fail
    go_loopg [8] len (fun k i wr => ∃ j n, k = len - j ∧ j ≤ len ∧ i = .int .i64 j ∧ wr = w2.drewN n)
    case atStart => exact ⟨0, 0, rfl, Nat.zero_le _, rfl, rfl⟩
    case round =>
      obtain ⟨j, n, hk, hj, rfl, rfl⟩ := hrel
      by_cases hlt : j < len
      · obtain rfl := hcame.addr (by omega)
        have hc1 := hcell j hlt
        have hlt' : (j : Int) < (len : Int) := by omega
        clear hcell
        go_wp2_with fail
        go_quiet (fail)
        go_wp2
        go_roundg (len - (j + 1))
        case measure => omega
        case rel => exact ⟨j + 1, _, rfl, by omega, by go_num, rfl⟩
      · obtain rfl : j = len := by omega
        go_wp2_with fail
        refine (unesc_str vo 0 0 0 0 s q (w2.drewN n) (by omega) HM.out.symm (fun h => absurd h (Nat.lt_irrefl _)) (fun h => absurd h (Nat.lt_irrefl _)) (fun t v hv => by rw [HK.out] at hv; simp at hv)).mono ?_
        rintro e w3 ⟨rfl, hb3⟩
        go_wp2
        go_ret
        exact ⟨by simp, hbel.trans ((hb2.mono hbel.size).trans (((Bel.of (Below.refl _ _)).drewN n).trans ((Bel.of hb3).mono (Nat.le_trans hbel.size hb2.size))))⟩
  · simp only [Value.slice.injEq] at hv
    obtain ⟨rfl, _, rfl⟩ := hv
    have hM : 0 < (esc q s.data.toList).length := by omega
    have hMb : (esc q s.data.toList).length ≤ 2097152 := by have := esc_len q s.data.toList; simp at this; omega
    have hcells := hown.holds
    have hbig := hown.le
    have hmax := hown.max
    generalize hMM : (esc q s.data.toList).length = M at *
    have HMM : Hid ((esc q s.data.toList).length = M) := hMM
    clear hMM
    go_wp2_with fail
    go_loopg [8] len (fun k i wr => ∃ j n, k = len - j ∧ j ≤ len ∧ i = .int .i64 j ∧ wr = w2.drewN n)
    case atStart => exact ⟨0, 0, rfl, Nat.zero_le _, rfl, rfl⟩
    case round =>
      obtain ⟨j, n, hk, hj, rfl, rfl⟩ := hrel
      by_cases hlt : j < len
      · obtain ⟨hc1, hc2⟩ := out_old (v := .bool true) (r := 0) hcame hlt hown hb2
        obtain rfl := hcame.addr (by omega)
        have hlt' : (j : Int) < (len : Int) := by omega
        have hlt2 : (j : Int) < (len : Int) + (M : Int) := by omega
        clear hcells hown hu
        go_wp2_with fail
        go_quiet (fail)
        go_wp2
        go_roundg (len - (j + 1))
        case measure => omega
        case rel => exact ⟨j + 1, _, rfl, by omega, by go_num, rfl⟩
      · obtain rfl : j = len := by omega
        unfold maxLen at hmax
        have hnew := out_new hcame hown (by rw [bcells_length]; exact HMM.out)
        have hgl : g < w2.heap.size := World.block_lt_of_cell? _ _ (Option.isSome_iff_exists.1 (hown.there 0 (by omega)).1).choose_spec
        have HNEW : Hid (∀ t v, (bcells (esc q s.data.toList))[t]? = some v → w2.cell? ⟨g, j + t, none⟩ = some v) := hnew
        clear hnew
        go_wp2_with fail
        refine (unesc_str _ g j M _ s q (w2.drewN n) (by omega) HMM.out.symm (fun _ => hgl) (fun _ => rfl) HNEW.out).mono ?_
        rintro e w3 ⟨rfl, hb3⟩
        go_wp2
        go_ret
        exact ⟨by simp, hbel.trans ((hb2.mono hbel.size).trans (((Bel.of (Below.refl _ _)).drewN n).trans ((Bel.of hb3).mono (Nat.le_trans hbel.size hb2.size))))⟩

end Go.Proofs.Qxb6003362a
