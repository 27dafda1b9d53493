import Derived.Test.Qxb6003452aDoorAdd
namespace Go.Proofs.Qxb6003452aDoor
open Go.RowKit
set_option linter.unusedVariables false

set_option maxHeartbeats 1600000 in
set_option maxRecDepth 100000 in
theorem add_no (m : ByteArray) (n : Nat) (w : World) (h1 : 1 ≤ m.size) (h19 : m.size ≤ 19) (hd : Dec m.data.toList) (hn : n < 18446744073709551616)
    (hsum : 10 ^ m.size ≤ dv m.data.toList + n) (htab : Lib.TabIs Tryd.prog w Tryd.tabName .u64 Lib.pow10Tab) :
    Calls Tryd.prog 9 #[.string m, .int .u64 n] w fun e w' => e = .returned (.tuple #[.string ⟨#[]⟩, .bool false]) ∧ Below w.heap.size w w' := by
  have hlen : m.data.toList.length = m.size := by simp
  have hp := parse_ok m.data.toList hd (by intro e; rw [e] at hlen; simp at hlen; omega) (by omega)
  have h64 : 10 ^ m.size ≤ 10 ^ 19 := Nat.pow_le_pow_right (by decide) h19
  have e19 : (10 : Nat) ^ 19 = 10000000000000000000 := by decide
  have hV := dv_lt hd
  rw [hlen] at hV
  have hV64 : dv m.data.toList < 10000000000000000000 := by omega
  have HP := Lib.hid (Tryd.strconv_ParseUint_10_at64_ok m (by omega) (dv m.data.toList) hp w)
  have hgt := nDigits_gt (dv m.data.toList + n) m.size hsum
  clear hp hlen hd hsum h64 e19 hV
  generalize dv m.data.toList = V at *
  by_cases hw : V + n < 18446744073709551616
  · go_enter Tryd.func9, Tryd.ntmps9
    go_wp2_with fail
    refine (HP.out).mono ?_
    rintro e w1 ⟨rfl, hw1⟩
    have hb1 : Below w.heap.size w w1 := by
      rcases hw1 with rfl | rfl
      · exact Below.refl _ _
      · exact below_bytes w m
    have ht1 := tab_below htab hb1
    clear hw1 HP htab
    go_wp2_with fail
    refine (fmt_int _ (V + n) (by omega) (by omega) w1 ht1).mono ?_
    rintro e w2 ⟨rfl, hb2⟩
    have hB2 := hb1.trans (hb2.mono hb1.size)
    have hsz : ((⟨(Lib.decDigits (V + n)).toArray⟩ : ByteArray)).size = Lib.nDigits (V + n) := by rw [sz, Lib.decDigits_length]
    clear ht1 hb1 hb2
    go_wp2
    go_ret2
    exact ⟨rfl, hB2⟩
  · have hwr : IntKind.u64.wrap ((V : Int) + (n : Int)) = ((V + n - 18446744073709551616 : Nat) : Int) := by rw [IntKind.wrap_u64]; omega
    have HW := Lib.hid hwr
    clear hwr hgt
    go_enter Tryd.func9, Tryd.ntmps9
    go_wp2_with fail
    refine (HP.out).mono ?_
    rintro e w1 ⟨rfl, hw1⟩
    have hb1 : Below w.heap.size w w1 := by
      rcases hw1 with rfl | rfl
      · exact Below.refl _ _
      · exact below_bytes w m
    have ht1 := tab_below htab hb1
    clear hw1 HP htab
    go_wp2_with fail
    have hx := HW.out
    clear HW
    generalize IntKind.u64.wrap ((V : Int) + (n : Int)) = x at *
    have hxV : x < (V : Int) := by omega
    have HX := Lib.hid hx
    clear hx
    refine (fmt_int x (V + n - 18446744073709551616) HX.out (by omega) w1 ht1).mono ?_
    rintro e w2 ⟨rfl, hb2⟩
    have hB2 := hb1.trans (hb2.mono hb1.size)
    clear ht1 hb1 hb2 hw
    go_wp2
    go_ret2
    exact ⟨rfl, hB2⟩

end Go.Proofs.Qxb6003452aDoor
