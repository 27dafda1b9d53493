import Derived.Test.Qxb6604758aDecodeWalk
/-
  decodeHead whole; takeUp; ZZtakeUp; ZZnewStore.
-/
namespace Go.Proofs.Qxb6604758a
open Go.RowKit
set_option linter.unusedVariables false
set_option linter.unusedSimpArgs false

set_option maxRecDepth 100000 in
theorem decode_short (m c g : Nat) (l : List UInt8) (s0 : Idx) (B : Key → Option Nat) (w : World) (hS : StoB m s0.2 B s0.1 w)
    (hc : Cells w g 0 l) (h2 : 1 ≤ l.length) (hn : l.length ≤ 1048576) (hd : dec 0 0 (l.drop 1) = none) :
    Calls Try.prog 29 #[.slice (some ⟨g, 0, none⟩) l.length l.length, cloV c] w fun e w' => ∃ err, e = .returned err ∧ Left m w s0 err ([], false) w' := by
  have hu := fun (o : Nat) (ho : Cells w g o (l.drop 1)) => uvarint g o (l.length - 1) (l.length - 1) (l.drop 1) w (by simp) (by omega) ho
  have hz := dec2_none _ 0 0 hd
  generalize (dec2 0 0 (l.drop 1)).1 = z1 at hu
  generalize (dec2 0 0 (l.drop 1)).2 = z2 at hu hz
  have hc1 := hc.drop 1
  rw [Nat.zero_add] at hc1
  have hfin : ∀ (ob : Obj), Left m w s0 (.iface 110 (ptr w.heap.size)) ([], false) (w.alloc ob) := fun ob =>
    ⟨Or.inr ⟨rfl, _, rfl⟩, ⟨B, hS.alloc ob⟩, Fr.alloc w ob (Nat.le_of_lt hS.tab.lt)⟩
  have HF : Hid (∀ (ob : Obj), Left m w s0 (.iface 110 (ptr w.heap.size)) ([], false) (w.alloc ob)) := hfin
  clear hfin hS hd hc
  by_cases h1 : l.length = 1
  · have hu0 := hu 0 (fun j hj => by simp only [List.length_drop] at hj; omega)
    rw [h1] at hu0 ⊢
    clear hu
    go_enter Try.func29, Try.ntmps29
    go_wp2_with fail
    refine hu0.mono ?_
    rintro e w ⟨rfl, rfl⟩
    go_wp2_with fail
    refine (errorsNew _ _).mono ?_
    rintro e w2 ⟨rfl, rfl⟩
    go_wp2_with fail
    go_ret
    exact ⟨_, rfl, HF.out _⟩
  · have hu0 := hu 1 hc1
    clear hu
    go_enter Try.func29, Try.ntmps29
    go_wp2_with fail
    refine hu0.mono ?_
    rintro e w ⟨rfl, rfl⟩
    go_wp2_with fail
    refine (errorsNew _ _).mono ?_
    rintro e w2 ⟨rfl, rfl⟩
    go_wp2_with fail
    go_ret
    exact ⟨_, rfl, HF.out _⟩

/-- decodeHead. -/
theorem decode_head (m c g : Nat) (l : List UInt8) (s0 : Idx) (B : Key → Option Nat) (w : World) (hS : StoB m s0.2 B s0.1 w) (hcap : w.heap[c]? = some (capObj m)) (hcm : c ≠ m) (hg : g < m)
    (hc : Cells w g 0 l) (h2 : 1 ≤ l.length) (hn : l.length ≤ 1048576) (hroom : s0.2 + l.length ≤ 4194304) :
    Calls Try.prog 29 #[.slice (some ⟨g, 0, none⟩) l.length l.length, cloV c] w fun e w' => ∃ err, e = .returned err ∧ Left m w s0 err (heads l) w' := by
  cases hd : dec 0 0 (l.drop 1) with
  | none =>
    have e : heads l = ([], false) := by unfold heads; rw [hd]
    rw [e]
    exact decode_short m c g l s0 B w hS hc h2 hn hd
  | some vk =>
    obtain ⟨v, k⟩ := vk
    obtain ⟨b0, b1, b2, b3⟩ := dec_le _ 0 0 _ _ hd
    obtain ⟨NN, rfl⟩ : ∃ V : Nat, v = (V : Int) := ⟨v.toNat, by omega⟩
    have e : heads l = ents NN (l.drop (1 + k)) := by unfold heads; rw [hd]; simp
    rw [e]
    simp only [List.length_drop] at b1
    exact decode_long m c g l s0 B w hS hcap hcm hg hc (by omega) h2 hn hroom NN k hd

set_option maxRecDepth 100000 in
/-- ZZtakeUp (and takeUp beneath it). -/
theorem takeUp (m g : Nat) (l : List UInt8) (s0 : Idx) (B : Key → Option Nat) (w : World) (hS : StoB m s0.2 B s0.1 w) (hg : g < m)
    (hc : Cells w g 0 l) (h2 : 1 ≤ l.length) (hn : l.length ≤ 1048576) (hroom : s0.2 + l.length ≤ 4194304) :
    Calls Try.prog 22 #[ptr (m + 2), .slice (some ⟨g, 0, none⟩) l.length l.length] w fun e w' => ∃ err, e = .returned err ∧ Left m w s0 err (heads l) w' := by
  have hm := hS.tab.lt
  have hmf : ∀ (fn : Fn) (first cap : Array Value) (w : World), (Instr.makeFunc fn first cap).run Try.prog w = .ok (.func fn first cap) w := fun _ _ _ _ => rfl
  have hD := decode_head m w.heap.size g l s0 B (w.alloc (capObj m)) (hS.alloc _) (get_alloc_new w _) (by omega) hg (hc.of_block (get_alloc_old _ (by omega))) h2 hn hroom
  have hF := Fr.alloc w (capObj m) (Nat.le_of_lt hm)
  go_enter Try.func22, Try.ntmps22
  go_wp2_with fail
  refine hD.mono ?_
  rintro e w' ⟨err, rfl, hL⟩
  go_wp2_with fail
  go_ret
  exact ⟨err, rfl, hL.1, hL.2.1, hF.trans hL.2.2⟩

set_option maxRecDepth 100000 in
theorem zzTakeUp (m g : Nat) (l : List UInt8) (s0 : Idx) (B : Key → Option Nat) (w : World) (hS : StoB m s0.2 B s0.1 w) (hg : g < m)
    (hc : Cells w g 0 l) (h2 : 1 ≤ l.length) (hn : l.length ≤ 1048576) (hroom : s0.2 + l.length ≤ 4194304) :
    Calls Try.prog 15 #[ptr (m + 2), .slice (some ⟨g, 0, none⟩) l.length l.length] w fun e w' => ∃ err, e = .returned err ∧ Left m w s0 err (heads l) w' := by
  have hT := takeUp m g l s0 B w hS hg hc h2 hn hroom
  clear hS hc
  go_enter Try.func15, Try.ntmps15
  go_wp2_with fail
  refine hT.mono ?_
  rintro e w' ⟨err, rfl, hL⟩
  go_wp2_with fail
  go_ret
  exact ⟨err, rfl, hL⟩

set_option maxRecDepth 100000 in
/-- ZZnewStore. -/
theorem newStore (w : World) :
    Calls Try.prog 14 #[] w fun e w' => e = .returned (ptr (w.heap.size + 2)) ∧ StoB w.heap.size 0 (fun _ => none) (fun _ => none) w' ∧ Fr w.heap.size w w' := by
  have hmm := @run_makeMap Try.prog
  have hfin : StoB w.heap.size 0 (fun _ => none) (fun _ => none) (((w.alloc (.map #[] 0)).alloc (.map #[] 0)).alloc (stoObj w.heap.size)) ∧ Fr w.heap.size w (((w.alloc (.map #[] 0)).alloc (.map #[] 0)).alloc (stoObj w.heap.size)) := by
    have e1 := size_alloc w (.map #[] 0)
    have e2 := size_alloc (w.alloc (.map #[] 0)) (.map #[] 0)
    refine ⟨⟨?_, ?_, fun k p h => (by cases h), fun _ _ => rfl, fun k k' p h => (by cases h)⟩, ((Fr.alloc w _ (by omega)).trans (Fr.alloc _ _ (by omega))).trans (Fr.alloc _ _ (by omega))⟩
    · have := get_alloc_new ((w.alloc (.map #[] 0)).alloc (.map #[] 0)) (stoObj w.heap.size)
      rw [e2, e1] at this
      exact this
    · exact ((Tab.made w).block (get_alloc_old _ (by omega))).block (get_alloc_old _ (by omega))
  have HF : Hid (StoB w.heap.size 0 (fun _ => none) (fun _ => none) (((w.alloc (.map #[] 0)).alloc (.map #[] 0)).alloc (stoObj w.heap.size)) ∧ Fr w.heap.size w (((w.alloc (.map #[] 0)).alloc (.map #[] 0)).alloc (stoObj w.heap.size))) := hfin
  clear hfin
  go_enter Try.func14, Try.ntmps14
  go_wp2
  go_ret
  exact ⟨rfl, HF.out⟩

end Go.Proofs.Qxb6604758a
