import Derived.Test.Qxb6003452aDoorLaws
namespace Go.Proofs.Qxb6003452aDoor
open Go.RowKit
set_option linter.unusedVariables false

theorem add_zero (m : ByteArray) (w : World) (h1 : 1 ≤ m.size) (h19 : m.size ≤ 19) (hd : Dec m.data.toList) (htab : Lib.TabIs Tryd.prog w Tryd.tabName .u64 Lib.pow10Tab) :
    Calls Tryd.prog 9 #[.string m, .int .u64 0] w fun e w' => e = .returned (.tuple #[.string m, .bool true]) ∧ Below w.heap.size w w' := by
  have hlen : m.data.toList.length = m.size := by simp
  have hlt := dv_lt hd
  rw [hlen] at hlt
  have h := add_yes m 0 w h1 h19 hd (by omega) (by omega) htab
  have hp : (⟨(pad m.size (dv m.data.toList + 0)).toArray⟩ : ByteArray) = m := by
    rw [Nat.add_zero, ← hlen, pad_dv hd]
  rw [hp] at h
  exact h

set_option maxHeartbeats 3200000 in
set_option maxRecDepth 100000 in
theorem law5 (m : ByteArray) (a b : Nat) (w : World) (hm : m.size ≤ maxLen) (ha : a < 18446744073709551616) (hb : b < 18446744073709551616) (htab : Lib.TabIs Tryd.prog w Tryd.tabName .u64 Lib.pow10Tab) :
    Calls Tryd.prog 5 #[.string m, .int .u64 a, .int .u64 b] w fun e w' => e = .returned (.bool true) ∧ Below w.heap.size w w' := by
  by_cases hbig : 1048576 < m.size
  · have HT := Lib.hid htab
    clear htab
    go_enter Tryd.func5, Tryd.ntmps5
    go_wp2_with fail
    refine (bytes5_no m a b w hbig hm).mono ?_
    rintro e w ⟨rfl, rfl⟩
    go_wp2
    go_ret
    exact ⟨rfl, Below.refl _ _⟩
  have HTab := Lib.hid htab
  clear htab hm
  by_cases hb2 : 65536 < m.size ∨ (m.size ≤ 65536 ∧ m.size < 1) ∨ (m.size ≤ 65536 ∧ 19 < m.size)
  · rcases hb2 with h | ⟨h0, h⟩ | ⟨h0, h⟩
    all_goals
      go_enter Tryd.func5, Tryd.ntmps5
      go_wp2_with fail
      refine (bytes5_yes m a b w (by omega)).mono ?_
      rintro e w ⟨rfl, rfl⟩
      go_wp2
      go_ret
      exact ⟨rfl, Below.refl _ _⟩
  have h1 : 1 ≤ m.size := by omega
  have h19 : m.size ≤ 19 := by omega
  clear hbig hb2
  go_enter Tryd.func5, Tryd.ntmps5
  go_wp2_with fail
  refine (bytes5_yes m a b w (by omega)).mono ?_
  rintro e w ⟨rfl, rfl⟩
  go_wp2_with fail
  refine (isDec_any m w (by omega)).mono ?_
  rintro e w ⟨bb, rfl, rfl, hbb⟩
  cases bb with
  | false =>
    go_wp2
    go_ret
    exact ⟨rfl, Below.refl _ _⟩
  | true =>
  have HD := Lib.hid (hbb rfl)
  clear hbb
  by_cases hab : b ≤ a
  · go_wp2
    go_ret
    exact ⟨rfl, Below.refl _ _⟩
  go_wp2_with fail
  refine (add_zero m w h1 h19 HD.out HTab.out).mono ?_
  rintro e w1 ⟨rfl, hb1⟩
  have ht1 := Lib.hid (tab_below HTab.out hb1)
  go_wp2_with fail
  by_cases hsa : dv m.data.toList + a < 10 ^ m.size
  · refine (add_yes m a w1 h1 h19 HD.out ha hsa ht1.out).mono ?_
    rintro e w2 ⟨rfl, hb2⟩
    have hB2 := hb1.trans (hb2.mono hb1.size)
    have ht2 := Lib.hid (tab_below ht1.out hb2)
    have HSA := Lib.hid hsa
    clear hb1 hb2 hsa
    go_wp2_with fail
    by_cases hsb : dv m.data.toList + b < 10 ^ m.size
    · refine (add_yes m b w2 h1 h19 HD.out hb hsb ht2.out).mono ?_
      rintro e w3 ⟨rfl, hb3⟩
      have hB3 := hB2.trans (hb3.mono hB2.size)
      have HLT := Lib.hid (lt_pad m.size _ _ HSA.out hsb (by omega))
      clear hB2 hb3 hsb
      have ea := HLT.out.ls
      have eb := HLT.out.lt
      have hda := Lib.hid (pad_dec m.size (dv m.data.toList + a))
      have hdb := Lib.hid (pad_dec m.size (dv m.data.toList + b))
      go_wp2_with fail
      refine (isDec_yes _ w3 (by omega) hda.out).mono ?_
      rintro e w3 ⟨rfl, rfl⟩
      go_wp2_with fail
      refine (isDec_yes _ w3 (by omega) hdb.out).mono ?_
      rintro e w3 ⟨rfl, rfl⟩
      go_wp2_with fail
      refine (less _ _ m.size w3 h19 HLT.out).mono ?_
      rintro e w4 ⟨rfl, hb4⟩
      have hB4 := hB3.trans (hb4.mono hB3.size)
      go_wp2
      go_ret
      exact ⟨rfl, hB4⟩
    · refine (add_no m b w2 h1 h19 HD.out hb (by omega) ht2.out).mono ?_
      rintro e w3 ⟨rfl, hb3⟩
      have hB3 := hB2.trans (hb3.mono hB2.size)
      clear hB2 hb3 hsb
      go_wp2
      go_ret
      exact ⟨rfl, hB3⟩
  · refine (add_no m a w1 h1 h19 HD.out ha (by omega) ht1.out).mono ?_
    rintro e w2 ⟨rfl, hb2⟩
    have hB2 := hb1.trans (hb2.mono hb1.size)
    have ht2 := Lib.hid (tab_below ht1.out hb2)
    have HSA := Lib.hid hsa
    clear hb1 hb2 hsa
    go_wp2_with fail
    refine (add_no m b w2 h1 h19 HD.out hb (by have := HSA.out; omega) ht2.out).mono ?_
    rintro e w3 ⟨rfl, hb3⟩
    have hB3 := hB2.trans (hb3.mono hB2.size)
    clear hB2 hb3
    go_wp2
    go_ret
    exact ⟨rfl, hB3⟩

end Go.Proofs.Qxb6003452aDoor
