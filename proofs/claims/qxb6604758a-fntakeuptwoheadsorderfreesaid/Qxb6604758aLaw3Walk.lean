import Derived.Test.Qxb6604758aLaw3
/-
  The third law's walk.
-/
namespace Go.Proofs.Qxb6604758a
open Go.RowKit
set_option linter.unusedVariables false
set_option linter.unusedSimpArgs false

/-- Two errors of one record. -/
theorem ErrIs.pair {e1 e2 : Value} {b : Bool} (h1 : ErrIs e1 b) (h2 : ErrIs e2 b) : (b = true ∧ e1 = .nilIface ∧ e2 = .nilIface) ∨ (b = false ∧ ∃ x y, e1 = .iface 110 (ptr x) ∧ e2 = .iface 110 (ptr y)) := by
  rcases h1 with ⟨rfl, rfl⟩ | ⟨rfl, x, rfl⟩
  · rcases h2 with ⟨_, rfl⟩ | ⟨h, _⟩
    · exact Or.inl ⟨rfl, rfl, rfl⟩
    · cases h
  · rcases h2 with ⟨h, _⟩ | ⟨_, y, rfl⟩
    · cases h
    · exact Or.inr ⟨rfl, x, y, rfl, rfl⟩

/-- The empty index. -/
def idx0 : Idx := (fun _ => none, 0)

set_option maxRecDepth 100000 in
set_option maxHeartbeats 8000000 in
theorem law3_small (x y : Addr) (ca cb : Nat) (A Bl : List UInt8) (w : World) (hA1 : 1 ≤ A.length) (hB1 : 1 ≤ Bl.length) (hsum : A.length + Bl.length ≤ 1048576)
    (hcA : Calls Try.prog 13 #[.slice (some x) A.length ca] w fun e w' => e = .returned (.slice (some ⟨w.heap.size, 0, none⟩) A.length A.length) ∧ Cells w' w.heap.size 0 A ∧ Low w.heap.size w w' ∧ Hid (w'.heap.size = w.heap.size + 1))
    (hcB : ∀ w1, Cells w1 w.heap.size 0 A → Low w.heap.size w w1 → Hid (w1.heap.size = w.heap.size + 1) →
      Calls Try.prog 13 #[.slice (some y) Bl.length cb] w1 fun e w' => e = .returned (.slice (some ⟨w.heap.size + 1, 0, none⟩) Bl.length Bl.length) ∧ Two w A Bl w') :
    Calls Try.prog 5 #[.slice (some x) A.length ca, .slice (some y) Bl.length cb] w fun e w' => e = .returned (.bool true) ∧ Low w.heap.size w w' := by
  have hmm := @run_makeMap Try.prog
  have h12 := bytes12 (some x) (some y) A.length ca Bl.length cb w true (by unfold maxLen; omega) (by unfold maxLen; omega) (by simp; omega)
  have hla := heads_len A
  have hlb := heads_len Bl
  have HLA : Hid ((heads A).1.length ≤ A.length) := hla
  have HLB : Hid ((heads Bl).1.length ≤ Bl.length) := hlb
  clear hla hlb
  go_enter Try.func5, Try.ntmps5
  go_wp2_with fail
  refine h12.mono ?_
  rintro e w ⟨rfl, rfl⟩
  clear h12
  go_wp2_with fail
  refine hcA.mono ?_
  rintro e w1 ⟨rfl, c1, l1, s1⟩
  have hcB1 := hcB w1 c1 l1 s1
  clear hcA hcB s1 l1 c1
  go_wp2_with fail
  refine hcB1.mono ?_
  rintro e w2 ⟨rfl, hT2⟩
  clear hcB1
  go_wp2_with fail
  refine (newS w2).mono ?_
  rintro e w3 ⟨m1, rfl, hm1, hS3, hL3⟩
  have hg1 : w.heap.size + 2 ≤ m1 := by rw [hm1.out]; exact hT2.big
  have hT3 := hT2.on hg1 hL3
  clear hT2 hm1 hL3
  have hcall := zzTakeUp m1 w.heap.size A idx0 _ w3 hS3 (by omega) hT3.ca hA1 (by omega) (by simp [idx0]; omega)
  go_wp2_with fail
  refine hcall.mono ?_
  rintro e w4 ⟨err1a, rfl, hE1a, hS4, hL4⟩
  clear hcall hS3
  have hT4 := hT3.on hg1 hL4.toLow
  clear hT3 hL4
  obtain ⟨B4, hS4⟩ := hS4
  have hr4 : (run idx0 (heads A).1).2 ≤ A.length := by have := run_le (heads A).1 idx0; have := HLA.out; simp only [idx0] at *; omega
  have hcall := zzTakeUp m1 (w.heap.size + 1) Bl (run idx0 (heads A).1) B4 w4 hS4 (by omega) hT4.cb hB1 (by omega) (by omega)
  go_wp2_with fail
  refine hcall.mono ?_
  rintro e w5 ⟨err1b, rfl, hE1b, hS5, hL5⟩
  clear hcall hS4
  have hT5 := hT4.on hg1 hL5.toLow
  clear hT4 hL5
  obtain ⟨B5, hS5⟩ := hS5
  go_wp2_with fail
  refine (newS w5).mono ?_
  rintro e w6 ⟨m2, rfl, hm2, hS6, hC6⟩
  have hg2 : w.heap.size + 2 ≤ m2 := by rw [hm2.out]; exact hT5.big
  have hT6 := hT5.on hg2 hC6
  clear hT5
  have hcall := zzTakeUp m2 (w.heap.size + 1) Bl idx0 _ w6 hS6 (by omega) hT6.cb hB1 (by omega) (by simp [idx0]; omega)
  go_wp2_with fail
  refine hcall.mono ?_
  rintro e w7 ⟨err2b, rfl, hE2b, hS7, hL7⟩
  clear hcall hS6
  have hT7 := hT6.on hg2 hL7.toLow
  have hC7 := hC6.trans hL7.toLow
  clear hT6 hL7 hC6
  obtain ⟨B7, hS7⟩ := hS7
  have hr7 : (run idx0 (heads Bl).1).2 ≤ Bl.length := by have := run_le (heads Bl).1 idx0; have := HLB.out; simp only [idx0] at *; omega
  have hcall := zzTakeUp m2 w.heap.size A (run idx0 (heads Bl).1) B7 w7 hS7 (by omega) hT7.ca hA1 (by omega) (by omega)
  go_wp2_with fail
  refine hcall.mono ?_
  rintro e w8 ⟨err2a, rfl, hE2a, hS8, hL8⟩
  clear hcall hS7
  have hT8 := hT7.on hg2 hL8.toLow
  have hC8 := hC7.trans hL8.toLow
  clear hT7 hL8 hC7
  obtain ⟨B8, hS8⟩ := hS8
  have hm8 := hS8.tab.lt
  have hV9 : VK w8.heap.size (.slice none 0 0) [] (fun _ => none) (w8.alloc (.map #[] 0)) := ⟨Tab.made w8, World.ownsRow_nil _ _ _ _, fun k hk => by cases hk⟩
  have hL9 := Low.alloc (m := w8.heap.size) w8 (.map #[] 0) (Nat.le_refl _)
  have hT9 := hT8.on hT8.big hL9
  have hcall := apply_head w8.heap.size w.heap.size A (.slice none 0 0) [] (fun _ => none) (w8.alloc (.map #[] 0)) hV9 (by have := hT8.big; omega) hT9.ca hA1 (by omega) (by simp; omega)
  clear hV9
  go_wp2_with fail
  refine hcall.mono ?_
  rintro e w10 ⟨kv1, b1, rfl, hb1, ks1, F1, hrun1, hvk1, hL10⟩
  clear hcall
  have hT10 := hT9.on hT8.big hL10
  have HB1 : Hid (b1 = (heads A).2) := hb1
  have HR1 : Hid (run idx0 (heads A).1 = (F1, ks1.length)) := hrun1
  have hk1 : ks1.length ≤ A.length := by have := hr4; rw [HR1.out] at this; exact this
  clear hb1 hrun1 hT9
  have hcall := apply_head w8.heap.size (w.heap.size + 1) Bl kv1 ks1 F1 w10 hvk1 (by have := hT8.big; omega) hT10.cb hB1 (by omega) (by omega)
  go_wp2_with fail
  refine hcall.mono ?_
  rintro e w11 ⟨kv2, b2, rfl, hb2, ks2, F2, hrun2, hvk2, hL11⟩
  clear hcall hvk1
  have HB2 : Hid (b2 = (heads Bl).2) := hb2
  have hk2 : ks2.length ≤ 1048576 := by
    have h1 := run_le (heads Bl).1 (F1, ks1.length)
    have h2 := HLB.out
    rw [hrun2] at h1
    simp only at h1
    omega
  have HLOW : Hid (Low w.heap.size w w11) := (hT10.on hT8.big hL11).low
  have HFIN : Hid (Fin m1 m2 w8.heap.size kv2 ks2 F2 w11) := by
    have e1 : run (run idx0 (heads A).1) (heads Bl).1 = (F2, ks2.length) := by rw [HR1.out]; exact hrun2
    have hc : Low w8.heap.size w8 w11 := (hL9.trans hL10).trans hL11
    refine ⟨⟨B5, ?_⟩, ⟨B8, ?_⟩, hvk2⟩
    · rw [e1] at hS5
      refine hS5.low ?_
      rw [← hm2.out]
      exact hC8.trans (hc.mono (by omega))
    · rw [run_swap, e1] at hS8
      exact hS8.low hc
  clear hb2 hrun2 hvk2 hL11 hL10 hL9 hT10 hT8 hS8 hS5 hC8 hm2 HR1 hk1 hr4 hr7 HLA HLB
  have hcnt1 : Calls Try.prog 17 #[ptr (m1 + 2)] w11 fun e w' => e = .returned (.int .i64 ks2.length) ∧ w' = w11 := HFIN.out.s1.elim fun B h => topicCount m1 _ B F2 w11 h
  have hcnt2 : Calls Try.prog 17 #[ptr (m2 + 2)] w11 fun e w' => e = .returned (.int .i64 ks2.length) ∧ w' = w11 := HFIN.out.s2.elim fun B h => topicCount m2 _ B F2 w11 h
  rw [← HB1.out] at hE1a hE2a
  rw [← HB2.out] at hE1b hE2b
  have hpA := hE1a.pair hE2a
  have hpB := hE1b.pair hE2b
  clear hE1a hE2a hE1b hE2b HB1 HB2
  rcases HFIN.out.row with ⟨hkv, hk0⟩ | ⟨g, cap, hkv⟩
  · subst hkv
    rw [hk0] at hcnt1 hcnt2
    rcases hpA with ⟨rfl, rfl, rfl⟩ | ⟨rfl, xa, ya, rfl, rfl⟩ <;> rcases hpB with ⟨rfl, rfl, rfl⟩ | ⟨rfl, xb, yb, rfl, rfl⟩
    all_goals
      clear HFIN hk0 hk2
      go_wp2_with fail
      refine hcnt1.mono ?_
      rintro e w11 ⟨rfl, rfl⟩
      go_wp2_with fail
      refine hcnt2.mono ?_
      rintro e w11 ⟨rfl, rfl⟩
      go_wp2_with fail
      refine wp_loop_rounds 1 ?_
      rw [rounds_succ]
      go_wp2_with fail
      go_ret
      exact ⟨rfl, HLOW.out⟩
  · subst hkv
    rcases hpA with ⟨rfl, rfl, rfl⟩ | ⟨rfl, xa, ya, rfl, rfl⟩ <;> rcases hpB with ⟨rfl, rfl, rfl⟩ | ⟨rfl, xb, yb, rfl, rfl⟩
    all_goals
      go_wp2_with fail
      refine hcnt1.mono ?_
      rintro e w11 ⟨rfl, rfl⟩
      go_wp2_with fail
      refine hcnt2.mono ?_
      rintro e w11 ⟨rfl, rfl⟩
      clear hcnt1 hcnt2
      go_wp2_with fail
      go_loopw [15] (fun vi wr => ∃ i : Nat, i ≤ ks2.length ∧ vi = .int .i64 i ∧ wr.Alike w11) (fun vi _ => ks2.length - (intOf vi).toNat)
      case atStart => exact ⟨0, by omega, rfl, alike_refl _⟩
      case round =>
        obtain ⟨i, hi0, rfl, hwr⟩ := hrel
        by_cases hi : i < ks2.length
        · obtain ⟨k, v, hcell, hlook, q1, q2⟩ := (HFIN.out.alike hwr).key hi
          have HW : Hid (wr.Alike w11) := hwr
          clear hwr
          have c1 := q1.has wr (alike_refl _)
          have c2 := q2.has wr (alike_refl _)
          have c3 := q1.first
          have c4 := q1.len
          have c5 := q2.first
          have c6 := q2.len
          clear q1 q2
          go_wp2_with fail
          refine c1.mono ?_
          rintro e wr ⟨rfl, rfl⟩
          go_wp2_with fail
          refine c2.mono ?_
          rintro e wr ⟨rfl, rfl⟩
          go_wp2_with fail
          refine (c3 wr (alike_refl _)).mono ?_
          rintro e wa ⟨rfl, ha⟩
          have c4' := c4 wa ha
          clear c1 c2 c3 c4 hcell hlook ha
          go_wp2_with fail
          refine c4'.mono ?_
          rintro e wb ⟨rfl, hb⟩
          have c5' := c5 wb hb
          clear c4' c5 hb
          go_wp2_with fail
          refine c5'.mono ?_
          rintro e wc ⟨rfl, hc⟩
          have c6' := c6 wc hc
          clear c5' c6 hc
          go_wp2_with fail
          refine c6'.mono ?_
          rintro e wd ⟨rfl, hd⟩
          have HD : Hid (wd.Alike w11) := alike_trans hd HW.out
          clear c6' hd
          go_wp2_with fail
          go_roundw
          case rel => exact ⟨i + 1, by omega, by go_num, HD.out⟩
          case measure => simp [intOf]; omega
        · have HL : Hid (Low w.heap.size w wr) := ⟨hwr.2.1.trans HLOW.out.os, hwr.2.2.trans HLOW.out.output, by rw [hwr.1]; exact HLOW.out.size, fun i hi => by rw [hwr.1]; exact HLOW.out.low i hi⟩
          clear hwr
          go_wp2_with fail
          go_ret
          exact ⟨rfl, HL.out⟩

end Go.Proofs.Qxb6604758a
