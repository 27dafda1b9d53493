import Derived.Test.Qxb6003452aDoorFmt
import Derived.Test.Qxb6003452aDoorPlain
import Derived.Deep.LoopGhost
import Derived.Deep.OwnRows
import Derived.Deep.QuietTactic
import Derived.BigQuiet
namespace Go.Proofs.Qxb6003452aDoor
open Go.RowKit
set_option linter.unusedVariables false

set_option maxHeartbeats 400000 in
set_option maxRecDepth 100000 in
theorem isDec_yes (s : ByteArray) (w : World) (hs : s.size ≤ 65536) (hd : Dec s.data.toList) :
    Calls Tryd.prog 7 #[.string s] w fun e w' => e = .returned (.bool true) ∧ w' = w := by
  have HD : Hid (Dec s.data.toList) := hd
  clear hd
  go_enter Tryd.func7, Tryd.ntmps7
  go_wp2
  go_loopg [3] s.size (fun k i wr => ∃ j, k = s.size - j ∧ j ≤ s.size ∧ i = .int .i64 j ∧ wr = w)
  case atStart => exact ⟨0, rfl, Nat.zero_le _, rfl, rfl⟩
  case round =>
    obtain ⟨j, hk, hj, rfl, rfl⟩ := hrel
    by_cases hlt : j < s.size
    · have hb := HD.out.get j (by simpa using hlt)
      have hge : s.data.toList[j]'(by simpa using hlt) = s[j] := rfl
      rw [hge] at hb
      have hb1 : (48 : Int) ≤ (s[j].toNat : Int) := by omega
      have hb2 : (s[j].toNat : Int) ≤ 57 := by omega
      clear hb hge
      go_wp2
      go_roundg (s.size - (j + 1))
      case measure => omega
      case rel => exact ⟨j + 1, rfl, by omega, by go_num, rfl⟩
    · obtain rfl : j = s.size := by omega
      go_wp2
      go_ret
      exact ⟨rfl, rfl⟩

/-- What zzIsDecimal answers, and what its yes says. -/
def DecOk (s : ByteArray) (w : World) (e : Ending) (w' : World) : Prop := ∃ b, e = .returned (.bool b) ∧ w' = w ∧ (b = true → Dec s.data.toList)

set_option maxHeartbeats 400000 in
set_option maxRecDepth 100000 in
theorem isDec_any (s : ByteArray) (w : World) (hs : s.size ≤ 65536) :
    Calls Tryd.prog 7 #[.string s] w fun e w' => DecOk s w e w' := by
  go_enter Tryd.func7, Tryd.ntmps7
  go_wp2
  go_loopg [3] s.size (fun k i wr => ∃ j, k = s.size - j ∧ j ≤ s.size ∧ i = .int .i64 j ∧ Dec (s.data.toList.take j) ∧ wr = w)
  case atStart => exact ⟨0, rfl, Nat.zero_le _, rfl, fun c hc => by simp at hc, rfl⟩
  case round =>
    obtain ⟨j, hk, hj, rfl, hd, rfl⟩ := hrel
    by_cases hlt : j < s.size
    · have HD : Hid (Dec (s.data.toList.take j)) := hd
      clear hd
      by_cases hb : 48 ≤ (s[j].toNat : Int) ∧ (s[j].toNat : Int) ≤ 57
      · obtain ⟨hb1, hb2⟩ := hb
        go_wp2
        go_roundg (s.size - (j + 1))
        case measure => omega
        case rel =>
          refine ⟨j + 1, rfl, by omega, by go_num, ?_, rfl⟩
          rw [List.take_succ_eq_append_getElem (by simpa using hlt)]
          intro c hc
          rcases List.mem_append.1 hc with h | h
          · exact HD.out c h
          · rw [List.mem_singleton] at h
            subst h
            have hge : s.data.toList[j]'(by simpa using hlt) = s[j] := rfl
            rw [hge]
            omega
      · by_cases hb1 : (s[j].toNat : Int) < 48
        · go_wp2
          go_ret
          exact ⟨false, rfl, rfl, fun h => by cases h⟩
        · have hb2 : 57 < (s[j].toNat : Int) := by omega
          clear hb
          go_wp2
          go_ret
          exact ⟨false, rfl, rfl, fun h => by cases h⟩
    · obtain rfl : j = s.size := by omega
      go_wp2
      go_ret
      refine ⟨true, rfl, rfl, fun _ => ?_⟩
      rwa [List.take_of_length_le (by simp)] at hd

theorem below_bytes (w : World) (s : ByteArray) : Below w.heap.size w (Lib.bytesWorld w 5 s) := by
  refine ⟨rfl, rfl, rfl, by rw [Lib.bytesWorld_size]; omega, fun k hk => Lib.bytesWorld_at_old w 5 s k hk⟩

theorem tab_below {w w' : World} (h : Lib.TabIs Tryd.prog w Tryd.tabName .u64 Lib.pow10Tab) (hb : Below w.heap.size w w') : Lib.TabIs Tryd.prog w' Tryd.tabName .u64 Lib.pow10Tab := by
  unfold Lib.TabIs World.var? at *
  cases hg : Tryd.prog.globalNamed Tryd.tabName with
  | none => simp [hg] at h
  | some g =>
    simp only [hg, Option.bind_some] at h ⊢
    have hlt : g < w.heap.size := by
      rcases Nat.lt_or_ge g w.heap.size with h' | h'
      · exact h'
      · rw [Array.getElem?_eq_none h'] at h; simp at h
    rw [hb.block g hlt]
    exact h

theorem sz (l : List UInt8) : (⟨l.toArray⟩ : ByteArray).size = l.length := List.size_toArray
theorem cat (a b : List UInt8) : (⟨a.toArray⟩ : ByteArray) ++ (⟨b.toArray⟩ : ByteArray) = ⟨(a ++ b).toArray⟩ := by
  apply ByteArray.ext
  simp

theorem fmt_int (x : Int) (u : Nat) (hx : x = (u : Int)) (hu64 : u < 18446744073709551616) (w : World) (htab : Lib.TabIs Tryd.prog w Tryd.tabName .u64 Lib.pow10Tab) :
    Calls Tryd.prog 14 #[.int .u64 x, .int .i64 10] w fun e w' => e = .returned (.string ⟨(Lib.decDigits u).toArray⟩) ∧ Below w.heap.size w w' := by
  subst hx; exact fmt_any u hu64 w htab
theorem rep_int (x : Int) (c : Nat) (hx : x = (c : Int)) (hc : c ≤ 100) (w : World) :
    Calls Tryd.prog 15 #[.string ⟨#[48]⟩, .int .i64 x] w fun e w' => e = .returned (.string ⟨(Lib.repeatL [48] c).toArray⟩) ∧ Below w.heap.size w w' := by
  subst hx
  exact Tryd.strings_Repeat ⟨#[48]⟩ c w (by omega) (by show 1 * c ≤ _; omega)

set_option maxHeartbeats 1600000 in
set_option maxRecDepth 100000 in
theorem add_yes (m : ByteArray) (n : Nat) (w : World) (h1 : 1 ≤ m.size) (h19 : m.size ≤ 19) (hd : Dec m.data.toList) (hn : n < 18446744073709551616)
    (hsum : dv m.data.toList + n < 10 ^ m.size) (htab : Lib.TabIs Tryd.prog w Tryd.tabName .u64 Lib.pow10Tab) :
    Calls Tryd.prog 9 #[.string m, .int .u64 n] w fun e w' => e = .returned (.tuple #[.string ⟨(pad m.size (dv m.data.toList + n)).toArray⟩, .bool true]) ∧ Below w.heap.size w w' := by
  have hlen : m.data.toList.length = m.size := by simp
  have hp := parse_ok m.data.toList hd (by intro e; rw [e] at hlen; simp at hlen; omega) (by omega)
  have hnd := Lib.nDigits_pos (dv m.data.toList + n)
  have hle := nDigits_le (dv m.data.toList + n) m.size h1 hsum
  have h64 : 10 ^ m.size ≤ 10 ^ 19 := Nat.pow_le_pow_right (by decide) h19
  have e19 : (10 : Nat) ^ 19 = 10000000000000000000 := by decide
  have hs64 : dv m.data.toList + n < 10000000000000000000 := by omega
  have hpad := pad_eq (dv m.data.toList + n) m.size h1 hsum
  have HP := Lib.hid (Tryd.strconv_ParseUint_10_at64_ok m (by omega) (dv m.data.toList) hp w)
  have HPAD := Lib.hid hpad
  have hdl : (Lib.decDigits (dv m.data.toList + n)).length = Lib.nDigits (dv m.data.toList + n) := Lib.decDigits_length _
  clear hp hlen hd hsum hpad h64 e19
  generalize dv m.data.toList = V at *
  go_enter Tryd.func9, Tryd.ntmps9
  go_wp2_with fail
  refine (HP.out).mono ?_
  rintro e w1 ⟨rfl, hw1⟩
  have hb1 : Below w.heap.size w w1 := by
    rcases hw1 with rfl | rfl
    · exact Below.refl _ _
    · exact below_bytes w m
  have ht1 := tab_below htab hb1
  clear hw1 HP htab
  go_wp2_with fail
  refine (fmt_int _ (V + n) (by omega) (by omega) w1 ht1).mono ?_
  rintro e w2 ⟨rfl, hb2⟩
  have hB2 := hb1.trans (hb2.mono hb1.size)
  have hsz : ((⟨(Lib.decDigits (V + n)).toArray⟩ : ByteArray)).size = Lib.nDigits (V + n) := by rw [sz, hdl]
  clear ht1 hb1 hb2 hdl
  go_wp2_with fail
  refine (rep_int _ (m.size - Lib.nDigits (V + n)) (by omega) (by omega) w2).mono ?_
  rintro e w3 ⟨rfl, hb3⟩
  have hB3 := hB2.trans (hb3.mono hB2.size)
  have hrs : ((⟨(Lib.repeatL [48] (m.size - Lib.nDigits (V + n))).toArray⟩ : ByteArray)).size = m.size - Lib.nDigits (V + n) := by
    rw [sz, Lib.repeatL_length]; simp
  have hadd := fun W => run_string_add_sum (P := Tryd.prog) W ⟨(Lib.repeatL [48] (m.size - Lib.nDigits (V + n))).toArray⟩ ⟨(Lib.decDigits (V + n)).toArray⟩ (by rw [hrs, hsz]; omega)
  have hcat := cat (Lib.repeatL [48] (m.size - Lib.nDigits (V + n))) (Lib.decDigits (V + n))
  rw [HPAD.out] at hcat
  simp only [hcat] at hadd
  clear hB2 hb3 hcat
  go_wp2
  go_ret2
  exact ⟨rfl, hB3⟩

end Go.Proofs.Qxb6003452aDoor
