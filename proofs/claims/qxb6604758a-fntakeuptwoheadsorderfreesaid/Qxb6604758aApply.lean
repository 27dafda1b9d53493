import Derived.Test.Qxb6604758aVals
import Derived.Deep.Cut
/-
  zzApplyHead.
-/
namespace Go.Proofs.Qxb6604758a
open Go.RowKit
set_option linter.unusedVariables false
set_option linter.unusedSimpArgs false

/-- What zzApplyHead leaves. -/
def Done (vb : Nat) (w : World) (s0 : Idx) (kv : Value) (es : List (Key × Int)) (w' : World) : Prop :=
  ∃ ks F, run s0 es = (F, ks.length) ∧ VK vb kv ks F w' ∧ Low vb w w'

structure InA (vb NN : Nat) (w : World) (l : List UInt8) (s0 : Idx) (r0 : List (Key × Int) × Bool) (j p : Nat) (kv : Value) (ks : List Key) (F : Key → Option Int) (wr : World) : Prop where
  hj : j ≤ NN
  hp : p ≤ l.length
  vk : VK vb kv ks F wr
  low : Low vb w wr
  room : ks.length + (l.length - p) ≤ 4194304
  all : run s0 r0.1 = run (F, ks.length) (ents (NN - j) (l.drop p)).1
  ok : r0.2 = (ents (NN - j) (l.drop p)).2

theorem InA.bad {vb NN : Nat} {w : World} {l : List UInt8} {s0 : Idx} {r0 : List (Key × Int) × Bool} {j p : Nat} {kv : Value} {ks : List Key} {F : Key → Option Int} {wr : World} (h : InA vb NN w l s0 r0 j p kv ks F wr)
    (he : ents (NN - j) (l.drop p) = ([], false)) : r0.2 = false ∧ Done vb w s0 kv r0.1 wr :=
  ⟨by rw [h.ok, he], ks, F, by rw [h.all, he]; rfl, h.vk, h.low⟩

theorem InA.fin {vb NN : Nat} {w : World} {l : List UInt8} {s0 : Idx} {r0 : List (Key × Int) × Bool} {p : Nat} {kv : Value} {ks : List Key} {F : Key → Option Int} {wr : World} (h : InA vb NN w l s0 r0 NN p kv ks F wr) :
    r0.2 = true ∧ Done vb w s0 kv r0.1 wr := by
  have ha := h.all
  have ho := h.ok
  rw [Nat.sub_self] at ha ho
  exact ⟨ho, ks, F, ha, h.vk, h.low⟩

theorem InA.next {vb NN : Nat} {w : World} {l : List UInt8} {s0 : Idx} {r0 : List (Key × Int) × Bool} {j p : Nat} {kv : Value} {ks : List Key} {F : Key → Option Int} {wr : World} (h : InA vb NN w l s0 r0 j p kv ks F wr)
    (hj : j < NN) {V k1 k2 : Nat} {v : Int} (hd1 : dec 0 0 (l.drop p) = some ((V : Int), k1)) (hg1 : ¬ (l.drop p).length - k1 < V) (hd2 : dec 0 0 ((l.drop p).drop (k1 + V)) = some (v, k2)) {kv' : Value} {ks' : List Key} {w3 : World}
    (hvk : VK vb kv' ks' (stepF F (((l.drop p).drop k1).take V) (wrap64 v)) w3) (hlen : ks'.length = stepN F (((l.drop p).drop k1).take V) ks.length) (hlow : Low vb wr w3) :
    InA vb NN w l s0 r0 (j + 1) (p + k1 + V + k2) kv' ks' (stepF F (((l.drop p).drop k1).take V) (wrap64 v)) w3 := by
  obtain ⟨a0, a1, a2, a3⟩ := dec_le _ 0 0 _ _ hd1
  obtain ⟨b0, b1, b2, b3⟩ := dec_le _ 0 0 _ _ hd2
  have hp := h.hp
  have hr := h.room
  have e := ents_yes (n := NN - (j + 1)) hd1 hg1 hd2
  simp only [List.length_drop] at a1 b1 hg1
  have hN := stepN_le F (((l.drop p).drop k1).take V) ks.length
  rw [show NN - (j + 1) + 1 = NN - j by omega] at e
  have ed : (l.drop p).drop (k1 + V + k2) = l.drop (p + k1 + V + k2) := by rw [List.drop_drop]; congr 1; omega
  rw [ed] at e
  refine ⟨by omega, by omega, hvk, h.low.trans hlow, by omega, ?_, ?_⟩
  · rw [h.all, e, hlen]; rfl
  · rw [h.ok, e]

/-- An append whose run is known, at the operation. -/
theorem wpList_append_run {P : Program} {w : World} {ops : Array Oper} {rest : List Oper} {o : Oper} {a : Act} {Q : Exit → Act → World → Prop} (hgd : o.guard = none) (s x : Operand) (t : TypeId)
    (ho : o.op = .call { callee := .builtin .append, args := #[s, x], argTypes := #[t, t] }) (vs vx v' : Value) (w2 : World) (hs : a.eval s = vs) (hx : a.eval x = vx)
    (hrun : (Builtin.append_ #[t, t] o.type #[vs, vx]).run P w = .ok v' w2) (hK : wpList P ops Q rest (a.put o.dst v') w2) : wpList P ops Q (o :: rest) a w := by
  refine wpList_plain hgd fun K' hK' => ?_
  unfold Oper.wp
  simp [execOp, ho, resolve, invoke, builtin, hs, hx, hrun, Result.andThen]
  exact hK' _ _ hK

set_option maxRecDepth 100000 in
set_option maxHeartbeats 4000000 in
theorem apply_long (vb g : Nat) (l : List UInt8) (kv : Value) (ks : List Key) (F : Key → Option Int) (w : World) (hV : VK vb kv ks F w) (hg : g < vb)
    (hc : Cells w g 0 l) (h2 : 1 ≤ l.length) (hn : l.length ≤ 1048576) (hroom : ks.length + l.length ≤ 4194304) (NN k : Nat) (hd : dec 0 0 (l.drop 1) = some ((NN : Int), k)) :
    Calls Try.prog 16 #[.slice (some ⟨g, 0, none⟩) l.length l.length, kv, .map (some vb)] w fun e w' => ∃ kv' b, e = .returned (.tuple #[kv', .bool b]) ∧ b = (ents NN (l.drop (1 + k))).2 ∧ Done vb w (F, ks.length) kv' (ents NN (l.drop (1 + k))).1 w' := by
  have hz := zuv g 0 l.length l.length 1 l w rfl hn h2 hc
  have ez : zres l 1 = ((NN : Int), (1 : Int) + (k : Int), true) := by unfold zres; rw [hd]; rfl
  rw [ez] at hz
  obtain ⟨k0, k1, v0, v1⟩ := dec_le _ 0 0 _ _ hd
  simp only [Nat.zero_add, List.length_drop] at k1
  have hNN : NN ≤ 18446744073709551615 := by omega
  clear v0 v1 hd ez
  have HW : Hid (Cells w g 0 l) := hc
  clear hc
  generalize hr0 : ents NN (l.drop (1 + k)) = r0
  have HS : Hid (InA vb NN w l (F, ks.length) r0 0 (1 + k) kv ks F w) := ⟨by omega, by omega, hV, Low.refl _ _, by omega, by rw [Nat.sub_zero, hr0], by rw [Nat.sub_zero, hr0]⟩
  clear hr0 hV
  go_enter Try.func16, Try.ntmps16
  go_wp2_with fail
  refine hz.mono ?_
  rintro e w ⟨rfl, rfl⟩
  clear hz
  go_wp2_with fail
  go_loopw [1, 9, 11] (fun vk vp vi wr => ∃ (j p : Nat) (kv1 : Value) (ks1 : List Key) (F1 : Key → Option Int), kv1 = vk ∧ vp = .int .i64 p ∧ vi = .int .u64 j ∧ InA vb NN w l (F, ks.length) r0 j p kv1 ks1 F1 wr) (fun _ _ vi _ => NN - (intOf vi).toNat)
  case atStart => exact ⟨0, 1 + k, kv, ks, F, rfl, by simp, rfl, HS.out⟩
  case round =>
    obtain ⟨j, p, kv1, ks1, F1, rfl, rfl, rfl, hI⟩ := hrel
    have hj0 := hI.hj
    have hp0 := hI.hp
    have hcw : Cells wr g 0 l := HW.out.of_block (hI.low.low g hg)
    by_cases hj : j < NN
    · obtain ⟨q, hq⟩ : ∃ q, NN - j = q + 1 := ⟨NN - j - 1, by omega⟩
      have HQ : Hid (NN - j = q + 1) := hq
      clear hq
      have hz1 := zuv g 0 l.length l.length p l wr rfl hn hp0 hcw
      cases hd1 : dec 0 0 (l.drop p) with
      | none =>
        have HB := hI.bad (by rw [HQ.out]; exact ents_no hd1)
        have e1 : zres l p = (0, (p : Int), false) := by unfold zres; rw [hd1]
        rw [e1] at hz1
        have HB' : Hid (r0.2 = false ∧ Done vb w (F, ks.length) kv1 r0.1 wr) := HB
        clear hd1 e1 HB
        go_wp2_with fail
        refine hz1.mono ?_
        rintro e wr ⟨rfl, rfl⟩
        go_wp2_with fail
        go_ret2
        exact ⟨_, _, rfl, HB'.out.1.symm, HB'.out.2⟩
      | some vk1 =>
        obtain ⟨Vi, k1⟩ := vk1
        obtain ⟨kk0, kk1, vv0, vv1⟩ := dec_le _ 0 0 _ _ hd1
        obtain ⟨V, rfl⟩ : ∃ V : Nat, Vi = (V : Int) := ⟨Vi.toNat, by omega⟩
        clear vv0 vv1
        simp only [Nat.zero_add, List.length_drop] at kk1
        have e1 : zres l p = ((V : Int), ((p + k1 : Nat) : Int), true) := by unfold zres; rw [hd1]; simp
        rw [e1] at hz1
        clear e1
        obtain ⟨P1, hP1⟩ : ∃ P1, p + k1 = P1 := ⟨_, rfl⟩
        rw [hP1] at hz1
        have hP2 : P1 ≤ l.length := by omega
        by_cases hg1 : (l.drop p).length - k1 < V
        · have HB' : Hid (r0.2 = false ∧ Done vb w (F, ks.length) kv1 r0.1 wr) := hI.bad (by rw [HQ.out]; exact ents_great hd1 hg1)
          simp only [List.length_drop] at hg1
          have hg3 : l.length - P1 < V := by omega
          clear hd1 hg1 hP1 kk1
          go_wp2_with fail
          refine hz1.mono ?_
          rintro e wr ⟨rfl, rfl⟩
          go_wp2_with fail
          go_ret2
          exact ⟨_, _, rfl, HB'.out.1.symm, HB'.out.2⟩
        · have hg2 := hg1
          simp only [List.length_drop] at hg2
          have hg3 : P1 + V ≤ l.length := by omega
          have hz2 := zuv g 0 l.length l.length (P1 + V) l wr rfl hn (by omega) hcw
          have ed : (l.drop p).drop (k1 + V) = l.drop (P1 + V) := by rw [List.drop_drop, ← hP1]; congr 1; omega
          have et : (l.drop p).drop k1 = l.drop P1 := by rw [List.drop_drop, hP1]
          cases hd2 : dec 0 0 ((l.drop p).drop (k1 + V)) with
          | none =>
            have HB' : Hid (r0.2 = false ∧ Done vb w (F, ks.length) kv1 r0.1 wr) := hI.bad (by rw [HQ.out]; exact ents_no2 hd1 hg1 hd2)
            have e2 : zres l (P1 + V) = (0, ((P1 + V : Nat) : Int), false) := by unfold zres; rw [← ed, hd2]
            rw [e2] at hz2
            simp only [Int.natCast_add] at hz2
            clear hd1 hd2 e2 ed hg1 hg2 hP1 kk1 et
            by_cases hcp : l.length = P1
            · obtain rfl : V = 0 := by omega
              subst hcp
              have e0 : ((0 : Nat) : Int) = 0 := rfl
              rw [e0] at hz1 hz2
              rw [Int.add_zero] at hz2
              have hcd : Cells wr g 0 [] := fun j hj => by simp at hj
              have htx := hcd.text 0
              simp only [List.length_nil] at htx
              clear hcd e0 hcw hg3
              go_wp2_with fail
              refine hz1.mono ?_
              rintro e wr ⟨rfl, rfl⟩
              go_wp2_with fail
              refine hz2.mono ?_
              rintro e wr ⟨rfl, rfl⟩
              go_wp2_with fail
              go_ret2
              exact ⟨_, _, rfl, HB'.out.1.symm, HB'.out.2⟩
            · have htx := ((hcw.drop P1).take V).text (l.length - P1)
              have hlen : ((l.drop P1).take V).length = V := by simp; omega
              rw [hlen, Nat.zero_add] at htx
              generalize (l.drop P1).take V = t at htx
              have b1 : (P1 : Int) ≤ (P1 : Int) + (V : Int) := by omega
              have b2 : (P1 : Int) + (V : Int) ≤ (l.length : Int) := by omega
              clear hlen hcw
              go_wp2_with fail
              refine hz1.mono ?_
              rintro e wr ⟨rfl, rfl⟩
              go_wp2_with fail
              refine hz2.mono ?_
              rintro e wr ⟨rfl, rfl⟩
              go_wp2_with fail
              go_ret2
              exact ⟨_, _, rfl, HB'.out.1.symm, HB'.out.2⟩
          | some vk2 =>
            obtain ⟨v, k2⟩ := vk2
            obtain ⟨b0, b1, b2, b3⟩ := dec_le _ 0 0 _ _ hd2
            rw [ed] at b1
            simp only [Nat.zero_add, List.length_drop] at b1
            have hcp : ¬ l.length = P1 := by omega
            obtain ⟨P3, hP3⟩ : ∃ P3, P1 + V + k2 = P3 := ⟨_, rfl⟩
            have e2 : zres l (P1 + V) = (v, (P3 : Int), true) := by unfold zres; rw [← ed, hd2, ← hP3]; simp
            rw [e2] at hz2
            simp only [Int.natCast_add] at hz2
            have HN : Hid (∀ (kv' : Value) (ks' : List Key) (w3 : World), VK vb kv' ks' (stepF F1 ((l.drop P1).take V) (wrap64 v)) w3 → ks'.length = stepN F1 ((l.drop P1).take V) ks1.length → Low vb wr w3 →
                InA vb NN w l (F, ks.length) r0 (j + 1) P3 kv' ks' (stepF F1 ((l.drop P1).take V) (wrap64 v)) w3) := by
              intro kv' ks' w3 x1 x2 x3
              have := hI.next hj hd1 hg1 hd2 (kv' := kv') (ks' := ks') (w3 := w3) (by rw [et]; exact x1) (by rw [et]; exact x2) x3
              rw [et, hP1, hP3] at this
              exact this
            have htx := ((hcw.drop P1).take V).text (l.length - P1)
            have hlen : ((l.drop P1).take V).length = V := by simp; omega
            have htl : ((l.drop P1).take V).length ≤ maxLen := by rw [hlen]; unfold maxLen; omega
            rw [hlen, Nat.zero_add] at htx
            generalize (l.drop P1).take V = t at htx HN htl
            have c1 : (P1 : Int) ≤ (P1 : Int) + (V : Int) := by omega
            have c2 : (P1 : Int) + (V : Int) ≤ (l.length : Int) := by omega
            have hl := hI.vk.tab.lookOk Try.underlying39 (Try.zeroValue2 wr) htl
            have hrm := hI.room
            have hks : ks1.length < maxLen := by unfold maxLen; omega
            cases hF0 : F1 t with
            | none =>
              have hF : Hid (F1 t = none) := hF0
              rw [hF0] at hl
              simp only [Option.map_none, Option.getD_none, Option.isSome_none] at hl
              by_cases hv : 0 < wrap64 v
              · obtain ⟨kv3, w2, w3, hrun2, hrun3, hvk0, hlow⟩ := hI.vk.app htl (by omega) hF0 (wrap64 v) 40
                have HX : Hid (InA vb NN w l (F, ks.length) r0 (j + 1) P3 kv3 (ks1 ++ [t]) (stepF F1 t (wrap64 v)) w3) := by
                  refine HN.out _ _ _ ?_ (by simp [stepN, hF.out]) hlow
                  have e : stepF F1 t (wrap64 v) = upd F1 t (wrap64 v) := by unfold stepF; rw [hF0]; congr 1; simp only [Option.getD_none]; omega
                  rw [e]; exact hvk0
                clear hvk0 hF0 htl hks hd1 hd2 e2 ed et hg1 hg2 hlen hcw hP1 hP3
                go_wp2_with fail
                refine hz1.mono ?_
                rintro e wr ⟨rfl, rfl⟩
                go_wp2_with fail
                refine hz2.mono ?_
                rintro e wr ⟨rfl, rfl⟩
                have HR2 : Hid ((Builtin.append_ #[40, 40] 40 #[kv1, .slice (some ⟨wr.heap.size, 0, none⟩) 1 1]).run Try.prog (wr.alloc (.cells #[keyV t] 9)) = .ok kv3 w2) := hrun2
                clear hrun2
                go_wp2_with (at_builtin; refine wpList_append_run rfl (.tmp 87) (.tmp 89) 40 rfl kv1 _ kv3 w2 rfl rfl HR2.out ?_)
                exact ⟨⟨j + 1, P3, kv3, ks1 ++ [t], _, rfl, rfl, by simp, HX.out⟩, by simp [intOf]; omega⟩
              · obtain ⟨kv3, w2, w3, hrun2, hrun3, hvk0, hlow⟩ := hI.vk.app htl (by omega) hF0 (0) 40
                have HX : Hid (InA vb NN w l (F, ks.length) r0 (j + 1) P3 kv3 (ks1 ++ [t]) (stepF F1 t (wrap64 v)) w3) := by
                  refine HN.out _ _ _ ?_ (by simp [stepN, hF.out]) hlow
                  have e : stepF F1 t (wrap64 v) = upd F1 t (0) := by unfold stepF; rw [hF0]; congr 1; simp only [Option.getD_none]; omega
                  rw [e]; exact hvk0
                clear hvk0 hF0 htl hks hd1 hd2 e2 ed et hg1 hg2 hlen hcw hP1 hP3
                go_wp2_with fail
                refine hz1.mono ?_
                rintro e wr ⟨rfl, rfl⟩
                go_wp2_with fail
                refine hz2.mono ?_
                rintro e wr ⟨rfl, rfl⟩
                have HR2 : Hid ((Builtin.append_ #[40, 40] 40 #[kv1, .slice (some ⟨wr.heap.size, 0, none⟩) 1 1]).run Try.prog (wr.alloc (.cells #[keyV t] 9)) = .ok kv3 w2) := hrun2
                clear hrun2
                go_wp2_with (at_builtin; refine wpList_append_run rfl (.tmp 87) (.tmp 89) 40 rfl kv1 _ kv3 w2 rfl rfl HR2.out ?_)
                exact ⟨⟨j + 1, P3, kv3, ks1 ++ [t], _, rfl, rfl, by simp, HX.out⟩, by simp [intOf]; omega⟩
            | some x =>
              have hF : Hid (F1 t = some x) := hF0
              rw [hF0] at hl
              simp only [Option.map_some, Option.getD_some, Option.isSome_some] at hl
              by_cases hv : x < wrap64 v
              · obtain ⟨w3, hrun3, hvk0, hlow⟩ := hI.vk.put htl hks (by rw [hF0]; rfl) (wrap64 v)
                have HX : Hid (InA vb NN w l (F, ks.length) r0 (j + 1) P3 kv1 ks1 (stepF F1 t (wrap64 v)) w3) := by
                  refine HN.out _ _ _ ?_ (by simp [stepN, hF.out]) hlow
                  have e : stepF F1 t (wrap64 v) = upd F1 t (wrap64 v) := by unfold stepF; rw [hF0]; congr 1; simp only [Option.getD_some]; omega
                  rw [e]; exact hvk0
                clear hvk0 hF0 htl hks hd1 hd2 e2 ed et hg1 hg2 hlen hcw hP1 hP3
                go_wp2_with fail
                refine hz1.mono ?_
                rintro e wr ⟨rfl, rfl⟩
                go_wp2_with fail
                refine hz2.mono ?_
                rintro e wr ⟨rfl, rfl⟩
                go_wp2_with fail
                exact ⟨⟨j + 1, P3, kv1, ks1, _, rfl, rfl, by simp, HX.out⟩, by simp [intOf]; omega⟩
              · obtain ⟨w3, hrun3, hvk0, hlow⟩ := hI.vk.put htl hks (by rw [hF0]; rfl) (x)
                have HX : Hid (InA vb NN w l (F, ks.length) r0 (j + 1) P3 kv1 ks1 (stepF F1 t (wrap64 v)) w3) := by
                  refine HN.out _ _ _ ?_ (by simp [stepN, hF.out]) hlow
                  have e : stepF F1 t (wrap64 v) = upd F1 t (x) := by unfold stepF; rw [hF0]; congr 1; simp only [Option.getD_some]; omega
                  rw [e]; exact hvk0
                clear hvk0 hF0 htl hks hd1 hd2 e2 ed et hg1 hg2 hlen hcw hP1 hP3
                go_wp2_with fail
                refine hz1.mono ?_
                rintro e wr ⟨rfl, rfl⟩
                go_wp2_with fail
                refine hz2.mono ?_
                rintro e wr ⟨rfl, rfl⟩
                go_wp2_with fail
                exact ⟨⟨j + 1, P3, kv1, ks1, _, rfl, rfl, by simp, HX.out⟩, by simp [intOf]; omega⟩
    · obtain rfl : j = NN := by omega
      have HB' : Hid (r0.2 = true ∧ Done vb w (F, ks.length) kv1 r0.1 wr) := hI.fin
      go_wp2_with fail
      go_ret2
      exact ⟨_, _, rfl, HB'.out.1.symm, HB'.out.2⟩

end Go.Proofs.Qxb6604758a
