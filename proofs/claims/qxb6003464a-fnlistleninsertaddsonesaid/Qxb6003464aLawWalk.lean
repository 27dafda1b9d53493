import Derived.Test.Qxb6003464aLaw
namespace Go.Proofs.Qxb6003464a
open Go.RowKit
set_option linter.unusedVariables false
set_option linter.unusedSimpArgs false

theorem counted0 (L : Nat → Nat) (E : Nat → Int) (R i : Nat) (h : i < R) : counted L E 0 0 R i = (S L (i + 1) : Int) := by
  unfold counted
  rw [if_pos ⟨Nat.zero_le _, h⟩]
  show (0 : Int) + ((S L (i + 1) : Int) - ((0 : Nat) : Int)) = _
  omega

theorem start_ends (L : Nat → Nat) (R k : Nat) (hk : k ≤ R) (E : Nat → Int) (hE : ∀ i, i < R → E i = (S L (i + 1) : Int)) : start (endAt R E) k = (S L k : Int) := by
  unfold start endAt
  cases k with
  | zero => rfl
  | succ k =>
    rw [if_neg (by omega), if_pos (by omega), hE _ (by omega)]
    rfl

theorem counted_last (L : Nat → Nat) (E : Nat → Int) (R k : Nat) (hk : k < R) : counted (bump L k) E (S L k : Int) k R (R - 1) = (S L R : Int) + 1 := by
  unfold counted
  rw [if_pos ⟨by omega, by omega⟩, show R - 1 + 1 = R by omega, S_bump_hi L k R (by omega), S_bump_lo L k k (Nat.le_refl _)]
  omega

theorem listLen' (l C R : Nat) (L : Nat → Nat) (E : Nat → Int) (w : World) (h20 : R ≤ 1048576) (hR : 0 < R) (h : Lst w l C R L E) :
    Calls Try.prog 28 #[.pointer (some ⟨l, 0, none⟩)] w fun e w' => e = .returned (.int .i64 (E (R - 1))) ∧ ∃ n, w' = w.drewN n := by
  obtain ⟨R', rfl⟩ : ∃ R', R = R' + 1 := ⟨R - 1, by omega⟩
  exact listLen_any l C R' L E w (by omega) h

set_option maxHeartbeats 3200000 in
set_option maxRecDepth 1000000 in
theorem law_walk (v : Value) (R n : Nat) (ea : Option Addr) (ec : Nat) (L : Nat → Nat) (fe : Nat → Int) (k g : Int) (w : World) (hR : R ≤ maxLen) (hn : n ≤ maxLen) (hL : ∀ r, r < R → L r ≤ maxLen)
    (h : RowsIn w v R L) (he : Ints .i64 w (.slice ea n ec) n fe) :
    Calls Try.prog 7 #[v, .slice ea n ec, .int .i64 k, .int .i8 g] w fun e w' => e = .returned (.bool true) ∧ Bel w.heap.size w w' := by
  have h' := h
  obtain ⟨a, c, rfl, hr⟩ := h'
  clear hr
  go_enter Try.func7, Try.ntmps7
  go_wp2_with fail
  refine (zzBytes_any _ R n ea ec L k g w hR hn hL h).mono ?_
  rintro e w1 ⟨b, rfl, rfl, hb⟩
  cases b with
  | false =>
    go_wp2
    go_ret
    exact ⟨rfl, Bel.refl _ _⟩
  | true =>
  obtain ⟨hn2, hRS⟩ := hb rfl
  clear hb hR hn hL
  go_wp2_with fail
  refine (b2Bytes_any _ R n ea ec L _ (by omega) (by omega) (by omega) h).mono ?_
  rintro e w ⟨t, rfl, rfl⟩
  by_cases ht : 1048576 < t
  · go_wp2
    go_ret
    exact ⟨rfl, Bel.refl _ _⟩
  by_cases hk0 : k < 0
  · go_wp2
    go_ret
    exact ⟨rfl, Bel.refl _ _⟩
  by_cases hk1 : (R : Int) ≤ k
  · go_wp2
    go_ret
    exact ⟨rfl, Bel.refl _ _⟩
  have hk0' : 0 ≤ k := by omega
  clear hk0
  obtain ⟨kn, rfl⟩ := Int.eq_ofNat_of_zero_le hk0'
  have hkR : kn < R := by omega
  have hrows := h.rows (by omega)
  have hkR' : (kn : Int) < (R : Int) := by omega
  clear hk1 h
  have hLr : ∀ r, r < R → L r ≤ 1048576 := fun r hr => by have := L_le_S L hr; omega
  have hR : R ≤ 1048576 := by omega
  have hSR : S L R ≤ 1048576 := by omega
  go_wp2_with fail
  refine (rows_any _ R L _ hR hLr hrows).mono ?_
  rintro e w2 ⟨rfl, hown, hb2⟩
  go_wp2_with fail
  refine (ints_any _ n fe _ hn2 (he.carry hb2)).mono ?_
  rintro e w3 ⟨sv, rfl, hsv, hb3⟩
  obtain ⟨sa, rfl, -⟩ := hsv.2
  have hown3 := hown.carry hb3
  have hB3 := hb2.trans (hb3.mono hb2.size)
  clear hown hb3 hb2 hrows he
  go_wp2_with fail
  refine (build_any _ _ R n L fe _ hR hLr hn2 hown3.rows hsv.1).mono ?_
  rintro e w4 ⟨rfl, hch, hb4⟩
  have hO : w.heap.size < w3.heap.size := by obtain ⟨g0, hg0, _⟩ := hown3; exact hg0.lt
  clear hsv
  go_wp2_with fail
  refine (newList_any w3.heap.size R L _ _ hch).mono ?_
  rintro e w5 ⟨rfl, hl5, hb5⟩
  have hB5 := hb4.trans (hb5.mono hb4.size)
  clear hch hb4 hb5
  go_wp2_with fail
  refine (listCount_any _ w3.heap.size R 0 L _ 0 _ hR (by omega) (Nat.zero_le _) rfl (by omega) (by omega) hl5).mono ?_
  rintro e w6 ⟨rfl, hl6, ho6⟩
  have hB6 : Bel w3.heap.size w3 w6 := hB5.trans (ho6.bel (Nat.le_refl _))
  clear hl5 ho6 hB5
  go_wp2_with fail
  refine (listLen' _ w3.heap.size R L _ _ hR (by omega) hl6).mono ?_
  rintro e w7 ⟨rfl, n7, rfl⟩
  have hl7 := hl6.carry ((Bel.refl w6.heap.size w6).drewN n7)
  have hB7 := hB6.drewN n7
  rw [counted0 L (endAt n fe) R (R - 1) (by omega), show R - 1 + 1 = R by omega]
  clear hl6 hB6
  generalize w6.drewN n7 = w8 at *
  go_wp2_with fail
  refine (ends_any _ w3.heap.size R L _ _ hR hl7).mono ?_
  rintro e w9 ⟨ev, rfl, hev, hb9⟩
  have hB9 := hB7.trans (hb9.mono hB7.size)
  clear hl7 hb9 hB7
  obtain ⟨eva, evc, rfl, -⟩ := id hev
  have hown9 := hown3.carry hB9
  have hBw9 : Bel w.heap.size w w9 := hB3.trans (hB9.mono hB3.size)
  clear hown3 hB9 hB3
  go_wp2_with fail
  refine (rows_any _ R L _ hR hLr hown9.rows).mono ?_
  rintro e w10 ⟨rfl, hown10, hb10⟩
  have hev10 := hev.carry hb10
  have hBw10 : Bel w.heap.size w w10 := hBw9.trans (hb10.mono hBw9.size)
  have hO10 : w9.heap.size < w10.heap.size := by obtain ⟨g0, hg0, _⟩ := hown10; exact hg0.lt
  have hge : w.heap.size ≤ w9.heap.size := hBw9.size
  clear hown9 hev hb10 hBw9
  generalize w9.heap.size = O at *
  -- grown[k] = append(grown[k], g)
  obtain ⟨G, hG, hGs, hGt⟩ := id hown10
  obtain ⟨fk, hfk⟩ := hGt kn hkR
  have hcell := hG.cell hkR
  have hfroz := hG.frozen kn
  obtain ⟨ka, hka, hka2⟩ := id hfk.2
  rw [hka] at hcell hfk
  obtain ⟨i0, hi0, hz0, hz1, hz2⟩ := info_parts Try.info23
  have hLk := hLr kn hkR
  have hokn : O < w10.heap.size := hO10
  go_wp2_with (at_builtin; refine wpList_append_grows _ rfl (.tmp 55) (.tmp 57) 22 rfl 23 i0 (.int .i8 0) 1 1 Try.underlying22 hi0 hz0 hz1 hz2 rfl (by omega) ka (L kn) (L kn) (olds fk (L kn)) rfl ?n1 (by simp [olds]) ?n2 ⟨w10.heap.size, 0, none⟩ 1 1 [.int .i8 g] rfl rfl (one_at8 _ _ _) (one_one8 _) (by omega) (by unfold maxLen; omega) (by omega) ?_)
  case n1 =>
    intro hnone
    rcases hka2 with h0 | h0
    · exact ⟨h0, h0⟩
    · exact absurd hnone h0
  case n2 =>
    intro bb hbb jj uu huu
    have := olds_at (hfk.1.carry ((Bel.refl w10.heap.size w10).alloc (Nat.le_refl _) (.cells #[.int .i8 g] 23))) bb hbb jj uu huu
    exact this
  intro v' w11 hown' hg'
  have hb11 : Bel w10.heap.size w10 w11 := Bel.of (((Below.refl w10.heap.size w10).alloc (Nat.le_refl _) _).grown hg' (by simp) (fun k hk => by cases hk))
  have hown11 := hown10.carry hb11
  have hint := ints_of_owns hown'
  have hrows12 := hown11.put (k := kn) hint
  obtain ⟨va, vc, rfl, -⟩ := id hint
  obtain ⟨G1, hG1, hG1s, -⟩ := id hown11
  have hcell1 := hG1.cell hkR
  have hfroz1 := hG1.frozen kn
  have hev12 := (hev10.carry hb11).setRow (i := kn) hG1 hG1s (.slice va (L kn + 1) vc)
  have hB12 : Bel w.heap.size w (w11.setCell ⟨O, kn, none⟩ (.slice va (L kn + 1) vc)) := (hBw10.trans (hb11.mono hBw10.size)).setCell hge _
  clear hown' hg' hint hown11 hown10 hG hGs hGt hfk hcell hfroz hG1 hG1s hev10 hBw10 hb11 hka hka2 hi0 hz0 hz1 hz2 hokn hO10
  go_wp2_with fail
  clear hcell1 hfroz1
  generalize w11.setCell ⟨O, kn, none⟩ (.slice va (L kn + 1) vc) = w12 at *
  have hLb : ∀ r, r < R → bump L kn r ≤ 1048576 := fun r hr => by
    unfold bump
    split
    · have := L_le_S L hkR; omega
    · exact hLr r hr
  refine (build_any _ _ R R (bump L kn) _ _ hR hLb hR hrows12 hev12).mono ?_
  rintro e w13 ⟨rfl, hch, hb13⟩
  have hB13 := hB12.trans (hb13.mono hB12.size)
  have hC13 : w.heap.size ≤ w12.heap.size := hB12.size
  clear hrows12 hev12 hB12 hb13
  go_wp2_with fail
  refine (newList_any w12.heap.size R (bump L kn) _ _ hch).mono ?_
  rintro e w14 ⟨rfl, hl14, hb14⟩
  have hB14 := hB13.trans (hb14.mono hB13.size)
  clear hch hB13 hb14
  have hst := start_ends L R kn (by omega) (counted L (endAt n fe) 0 0 R) (fun i hi => counted0 L (endAt n fe) R i hi)
  have hSb : S (bump L kn) R ≤ 2097152 := by rw [S_bump_hi L kn R hkR]; omega
  have hSk := S_mono L (show kn ≤ R by omega)
  have HST : Hid (start (endAt R (counted L (endAt n fe) 0 0 R)) kn = (S L kn : Int)) := hst
  clear hst
  go_wp2_with fail
  refine (listCount_any _ w12.heap.size R kn (bump L kn) _ (S L kn : Int) _ hR hSb (by omega) HST.out (by omega) (by omega) hl14).mono ?_
  rintro e w15 ⟨rfl, hl15, ho15⟩
  have hB15 : Bel w.heap.size w w15 := hB14.trans (ho15.bel hC13)
  clear hl14 ho15 hB14
  go_wp2_with fail
  refine (listLen' _ w12.heap.size R (bump L kn) _ _ hR (by omega) hl15).mono ?_
  rintro e w16 ⟨rfl, n16, rfl⟩
  have hB16 := hB15.drewN n16
  rw [counted_last L _ R kn hkR]
  clear hl15 hB15 HST
  go_wp2
  go_ret
  exact ⟨by simp, hB16⟩

end Go.Proofs.Qxb6003464a
