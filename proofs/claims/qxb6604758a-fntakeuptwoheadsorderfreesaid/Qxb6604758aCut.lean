import Derived.Test.Qxb6604758aClo
import Derived.Deep.QuietTactic
import Derived.BigQuiet
import Derived.Lib.ItoaMem
/-
  cutString.
-/
namespace Go.Proofs.Qxb6604758a
open Go.RowKit
set_option linter.unusedVariables false
set_option linter.unusedSimpArgs false

theorem Cells.drop {w : World} {g o : Nat} {l : List UInt8} (h : Cells w g o l) (k : Nat) : Cells w g (o + k) (l.drop k) := by
  intro j hj
  simp only [List.length_drop] at hj
  have := h (k + j) (by omega)
  rw [Nat.add_assoc, this]
  simp [List.getD_eq_getElem?_getD, List.getElem?_drop]

theorem Cells.take {w : World} {g o : Nat} {l : List UInt8} (h : Cells w g o l) (k : Nat) : Cells w g o (l.take k) := by
  intro j hj
  simp only [List.length_take] at hj
  have := h j (by omega)
  rw [this]
  simp [List.getD_eq_getElem?_getD, List.getElem?_take, show j < k by omega]

theorem Cells.text {w : World} {g o : Nat} {l : List UInt8} (h : Cells w g o l) (c : Nat) :
    (convert 31 9 (.slice (some ⟨g, o, none⟩) l.length c)).run Try.prog w = .ok (keyV l) w := by
  refine run_convert_bytes_back (P := Try.prog) w 31 9 5 ⟨g, o, none⟩ c l Try.underlying31 Try.underlying5 Try.underlying9 (fun j hj => ?_)
  have := h j hj
  rw [List.getD_eq_getElem?_getD, List.getElem?_eq_getElem hj] at this
  have e : (⟨g, o, none⟩ : Addr).add j = ⟨g, o + j, none⟩ := Lib.add_plain g o j
  rw [e, this]
  rfl

set_option maxRecDepth 100000 in
/-- cutString where no number, or too great a one, is read. -/
theorem cut_no (g o n cap : Nat) (l : List UInt8) (w : World) (hl : l.length = n) (hn : n ≤ 1048576) (hc : Cells w g o l) (hd : dec 0 0 l = none) :
    Calls Try.prog 44 #[.slice (some ⟨g, o, none⟩) n cap] w fun e w' => e = .returned (.tuple #[.string ⟨#[]⟩, .slice none 0 0, .bool false]) ∧ w' = w := by
  have h0 := dec2_none l 0 0 hd
  have hu := uvarint g o n cap l w hl hn hc
  generalize (dec2 0 0 l).1 = v at hu
  generalize (dec2 0 0 l).2 = k at hu h0
  go_enter Try.func44, Try.ntmps44
  go_wp2_with fail
  refine hu.mono ?_
  rintro e w' ⟨rfl, rfl⟩
  go_wp2_with fail
  go_ret3
  exact ⟨rfl, rfl⟩

set_option maxRecDepth 100000 in
theorem cut_great (g o n cap V k : Nat) (l : List UInt8) (w : World) (hl : l.length = n) (hn : n ≤ 1048576) (hc : Cells w g o l) (hd : dec 0 0 l = some ((V : Int), k)) (hV : n - k < V) :
    Calls Try.prog 44 #[.slice (some ⟨g, o, none⟩) n cap] w fun e w' => e = .returned (.tuple #[.string ⟨#[]⟩, .slice none 0 0, .bool false]) ∧ w' = w := by
  have hu := uvarint g o n cap l w hl hn hc
  rw [dec2_some l 0 0 _ _ hd] at hu
  obtain ⟨k0, k1, v0, v1⟩ := dec_le l 0 0 _ _ hd
  simp only [Nat.zero_add] at k1
  clear v0 v1 hd hc
  go_enter Try.func44, Try.ntmps44
  go_wp2_with fail
  refine hu.mono ?_
  rintro e w' ⟨rfl, rfl⟩
  go_wp2_with fail
  go_ret3
  exact ⟨rfl, rfl⟩

set_option maxRecDepth 100000 in
theorem cut_yes3 (g o n cap V k : Nat) (l : List UInt8) (w : World) (hl : l.length = n) (hn : n ≤ 1048576) (hcap : n ≤ cap) (hcap2 : cap ≤ 1073741824) (hc : Cells w g o l) (hd : dec 0 0 l = some ((V : Int), k)) (hV : k + V ≤ n) (h1 : ¬ cap = k) (h2 : ¬ cap = k + V) :
    Calls Try.prog 44 #[.slice (some ⟨g, o, none⟩) n cap] w fun e w' => e = .returned (.tuple #[keyV ((l.drop k).take V), .slice (some ⟨g, o + (k + V), none⟩) (n - (k + V)) (cap - (k + V)), .bool true]) ∧ w'.Alike w := by
  have hu := uvarint g o n cap l w hl hn hc
  rw [dec2_some l 0 0 _ _ hd] at hu
  obtain ⟨k0, k1, v0, v1⟩ := dec_le l 0 0 _ _ hd
  simp only [Nat.zero_add] at k1
  have hcd : Cells w.drew g o l := hc
  have htx := ((hcd.drop k).take V).text (cap - k)
  have hlen : ((l.drop k).take V).length = V := by simp; omega
  rw [hlen] at htx
  generalize (l.drop k).take V = t at htx
  clear hlen hcd hc hd v0 v1
  have b1 : (k : Int) ≤ (k : Int) + (V : Int) := by omega
  have b2 : (k : Int) + (V : Int) ≤ (cap : Int) := by omega
  have b3 : (k : Int) + (V : Int) ≤ (n : Int) := by omega
  go_enter Try.func44, Try.ntmps44
  go_wp2_with fail
  refine hu.mono ?_
  rintro e w' ⟨rfl, rfl⟩
  go_wp2_with fail
  go_region
  all_goals (go_wp2; go_ret3)
  exact ⟨rfl, rfl, rfl, rfl⟩

set_option maxRecDepth 100000 in
theorem cut_yes2 (g o V k : Nat) (l : List UInt8) (w : World) (hl : l.length = k + V) (hn : k + V ≤ 1048576) (hc : Cells w g o l) (hd : dec 0 0 l = some ((V : Int), k)) (h1 : ¬ V = 0) :
    Calls Try.prog 44 #[.slice (some ⟨g, o, none⟩) (k + V) (k + V)] w fun e w' => e = .returned (.tuple #[keyV ((l.drop k).take V), .slice (some ⟨g, o, none⟩) 0 0, .bool true]) ∧ w'.Alike w := by
  have hu := uvarint g o (k + V) (k + V) l w hl hn hc
  rw [dec2_some l 0 0 _ _ hd] at hu
  obtain ⟨k0, k1, v0, v1⟩ := dec_le l 0 0 _ _ hd
  simp only [Nat.zero_add] at k1
  have hcd : Cells w.drew g o l := hc
  have htx := ((hcd.drop k).take V).text V
  have hlen : ((l.drop k).take V).length = V := by simp; omega
  rw [hlen] at htx
  generalize (l.drop k).take V = t at htx
  clear hlen hcd hc hd v0 v1 hl k1
  have b1 : (k : Int) ≤ (k : Int) + (V : Int) := by omega
  go_enter Try.func44, Try.ntmps44
  go_wp2_with fail
  refine hu.mono ?_
  rintro e w' ⟨rfl, rfl⟩
  go_wp2_with fail
  go_region
  all_goals (go_wp2; go_ret3)
  exact ⟨by simp, rfl, rfl, rfl⟩

set_option maxRecDepth 100000 in
theorem cut_yes1 (g o k : Nat) (l : List UInt8) (w : World) (hl : l.length = k) (hn : k ≤ 1048576) (hc : Cells w g o l) (hd : dec 0 0 l = some ((0 : Int), k)) :
    Calls Try.prog 44 #[.slice (some ⟨g, o, none⟩) k k] w fun e w' => e = .returned (.tuple #[keyV [], .slice (some ⟨g, o, none⟩) 0 0, .bool true]) ∧ w'.Alike w := by
  have hu := uvarint g o k k l w hl hn hc
  rw [dec2_some l 0 0 _ _ hd] at hu
  obtain ⟨k0, k1, v0, v1⟩ := dec_le l 0 0 _ _ hd
  have hcd : Cells w.drew g o [] := fun j hj => by simp at hj
  have htx := hcd.text 0
  simp only [List.length_nil] at htx
  clear hcd hc hd v0 v1 hl k1
  go_enter Try.func44, Try.ntmps44
  go_wp2_with fail
  refine hu.mono ?_
  rintro e w' ⟨rfl, rfl⟩
  go_wp2_with fail
  go_region
  all_goals (go_wp2; go_ret3)
  exact ⟨by simp, rfl, rfl, rfl⟩

/-- cutString where it reads a string. -/
theorem cut_yes (g o n cap V k : Nat) (l : List UInt8) (w : World) (hl : l.length = n) (hn : n ≤ 1048576) (hcap : n ≤ cap) (hcap2 : cap ≤ 1073741824) (hc : Cells w g o l) (hd : dec 0 0 l = some ((V : Int), k)) (hV : k + V ≤ n) :
    Calls Try.prog 44 #[.slice (some ⟨g, o, none⟩) n cap] w fun e w' => ∃ o', e = .returned (.tuple #[keyV ((l.drop k).take V), .slice (some ⟨g, o', none⟩) (n - (k + V)) (cap - (k + V)), .bool true]) ∧ Cells w g o' (l.drop (k + V)) ∧ w'.Alike w := by
  have hnil : l.length ≤ k + V → Cells w g o (l.drop (k + V)) := fun h j hj => by simp only [List.length_drop] at hj; omega
  by_cases h2 : cap = k + V
  · subst h2
    obtain rfl : n = k + V := by omega
    by_cases h1 : V = 0
    · subst h1
      refine (cut_yes1 g o k l w hl hn hc hd).mono ?_
      rintro e w' ⟨rfl, ha⟩
      exact ⟨o, by simp, hnil (by omega), ha⟩
    · refine (cut_yes2 g o V k l w hl hn hc hd h1).mono ?_
      rintro e w' ⟨rfl, ha⟩
      exact ⟨o, by simp, hnil (by omega), ha⟩
  · refine (cut_yes3 g o n cap V k l w hl hn hcap hcap2 hc hd hV ?_ h2).mono ?_
    · intro h1
      omega
    rintro e w' ⟨rfl, ha⟩
    exact ⟨o + (k + V), rfl, hc.drop (k + V), ha⟩

end Go.Proofs.Qxb6604758a
