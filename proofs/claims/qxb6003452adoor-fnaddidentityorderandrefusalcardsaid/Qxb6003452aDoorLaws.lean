import Derived.Test.Qxb6003452aDoorLess
namespace Go.Proofs.Qxb6003452aDoor
open Go.RowKit
set_option linter.unusedVariables false

set_option maxHeartbeats 400000 in
set_option maxRecDepth 100000 in
theorem bytes3_yes (m : ByteArray) (n : Int) (w : World) (h : m.size ≤ 1048576) : Calls Tryd.prog 6 #[.string m, .int .u64 n] w fun e w' => e = .returned (.bool true) ∧ w' = w := by
  go_enter Tryd.func6, Tryd.ntmps6
  go_wp2
  go_ret
  exact ⟨rfl, rfl⟩
set_option maxHeartbeats 400000 in
set_option maxRecDepth 100000 in
theorem bytes3_no (m : ByteArray) (n : Int) (w : World) (h : 1048576 < m.size) (hm : m.size ≤ maxLen) : Calls Tryd.prog 6 #[.string m, .int .u64 n] w fun e w' => e = .returned (.bool false) ∧ w' = w := by
  unfold maxLen at hm
  go_enter Tryd.func6, Tryd.ntmps6
  go_wp2
  go_ret
  exact ⟨rfl, rfl⟩
set_option maxHeartbeats 400000 in
set_option maxRecDepth 100000 in
theorem bytes5_yes (m : ByteArray) (a b : Int) (w : World) (h : m.size ≤ 1048576) : Calls Tryd.prog 11 #[.string m, .int .u64 a, .int .u64 b] w fun e w' => e = .returned (.bool true) ∧ w' = w := by
  go_enter Tryd.func11, Tryd.ntmps11
  go_wp2
  go_ret
  exact ⟨rfl, rfl⟩
set_option maxHeartbeats 400000 in
set_option maxRecDepth 100000 in
theorem bytes5_no (m : ByteArray) (a b : Int) (w : World) (h : 1048576 < m.size) (hm : m.size ≤ maxLen) : Calls Tryd.prog 11 #[.string m, .int .u64 a, .int .u64 b] w fun e w' => e = .returned (.bool false) ∧ w' = w := by
  unfold maxLen at hm
  go_enter Tryd.func11, Tryd.ntmps11
  go_wp2
  go_ret
  exact ⟨rfl, rfl⟩

set_option maxHeartbeats 1600000 in
set_option maxRecDepth 100000 in
theorem law3 (m : ByteArray) (n : Nat) (w : World) (hm : m.size ≤ maxLen) (hn : n < 18446744073709551616) (htab : Lib.TabIs Tryd.prog w Tryd.tabName .u64 Lib.pow10Tab) :
    Calls Tryd.prog 3 #[.string m, .int .u64 n] w fun e w' => e = .returned (.bool true) ∧ Below w.heap.size w w' := by
  by_cases hbig : 1048576 < m.size
  · have HT := Lib.hid htab
    clear htab
    go_enter Tryd.func3, Tryd.ntmps3
    go_wp2_with fail
    refine (bytes3_no m n w hbig hm).mono ?_
    rintro e w ⟨rfl, rfl⟩
    go_wp2
    go_ret
    exact ⟨rfl, Below.refl _ _⟩
  have HTab := Lib.hid htab
  clear htab hm
  by_cases hb2 : 65536 < m.size
  · go_enter Tryd.func3, Tryd.ntmps3
    go_wp2_with fail
    refine (bytes3_yes m n w (by omega)).mono ?_
    rintro e w ⟨rfl, rfl⟩
    go_wp2
    go_ret
    exact ⟨rfl, Below.refl _ _⟩
  by_cases hb3 : m.size < 1
  · go_enter Tryd.func3, Tryd.ntmps3
    go_wp2_with fail
    refine (bytes3_yes m n w (by omega)).mono ?_
    rintro e w ⟨rfl, rfl⟩
    go_wp2
    go_ret
    exact ⟨rfl, Below.refl _ _⟩
  by_cases hb4 : 19 < m.size
  · go_enter Tryd.func3, Tryd.ntmps3
    go_wp2_with fail
    refine (bytes3_yes m n w (by omega)).mono ?_
    rintro e w ⟨rfl, rfl⟩
    go_wp2
    go_ret
    exact ⟨rfl, Below.refl _ _⟩
  have h1 : 1 ≤ m.size := by omega
  have h19 : m.size ≤ 19 := by omega
  clear hbig hb2 hb3 hb4
  go_enter Tryd.func3, Tryd.ntmps3
  go_wp2_with fail
  refine (bytes3_yes m n w (by omega)).mono ?_
  rintro e w ⟨rfl, rfl⟩
  go_wp2_with fail
  refine (isDec_any m w (by omega)).mono ?_
  rintro e w ⟨b, rfl, rfl, hb⟩
  cases b with
  | false =>
    go_wp2
    go_ret
    exact ⟨rfl, Below.refl _ _⟩
  | true =>
  have hd := hb rfl
  have HD := Lib.hid hd
  clear hb hd
  go_wp2_with fail
  refine (school m n (dv m.data.toList + n) w h1 h19 HD.out hn rfl).mono ?_
  rintro e w1 ⟨rfl, hb1⟩
  have ht1 := Lib.hid (tab_below HTab.out hb1)
  by_cases hs : dv m.data.toList + n < 10 ^ m.size
  · have hz : (((dv m.data.toList + n) / 10 ^ m.size : Nat) : Int) == 0 := by rw [Nat.div_eq_of_lt hs]; rfl
    rw [hz]
    have HS := Lib.hid hs
    clear hz hs
    go_wp2_with fail
    refine (add_yes m n w1 h1 h19 HD.out hn HS.out ht1.out).mono ?_
    rintro e w2 ⟨rfl, hb2⟩
    have hB := hb1.trans (hb2.mono hb1.size)
    clear hb1 hb2
    go_wp2
    go_ret
    exact ⟨by simp, hB⟩
  · have hz : ((((dv m.data.toList + n) / 10 ^ m.size : Nat) : Int) == 0) = false := by
      have : 0 < (dv m.data.toList + n) / 10 ^ m.size := Nat.div_pos (by omega) (Nat.pow_pos (by decide))
      rw [beq_eq_false_iff_ne]
      omega
    rw [hz]
    have HS := Lib.hid hs
    clear hz hs
    go_wp2_with fail
    refine (add_no m n w1 h1 h19 HD.out hn (by have := HS.out; omega) ht1.out).mono ?_
    rintro e w2 ⟨rfl, hb2⟩
    have hB := hb1.trans (hb2.mono hb1.size)
    clear hb1 hb2
    go_wp2
    go_ret
    exact ⟨by simp, hB⟩

end Go.Proofs.Qxb6003452aDoor
