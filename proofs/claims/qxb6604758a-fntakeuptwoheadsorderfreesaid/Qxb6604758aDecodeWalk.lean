import Derived.Test.Qxb6604758aDecode
/-
  decodeHead's walk.
-/
namespace Go.Proofs.Qxb6604758a
open Go.RowKit
set_option linter.unusedVariables false
set_option linter.unusedSimpArgs false

theorem alike_refl (w : World) : w.Alike w := ⟨rfl, rfl, rfl⟩

theorem start1 {m g NN k : Nat} {w : World} {s0 : Idx} {B : Key → Option Nat} {r0 : List (Key × Int) × Bool} {l : List UInt8} (h : StoB m s0.2 B s0.1 w) (hc : Cells w g 0 l) (hn : l.length ≤ 1048576) (hroom : s0.2 + l.length ≤ 4194304) (hr : ents NN (l.drop (1 + k)) = r0) :
    InL m g NN w s0 r0 0 (1 + k) (l.length - (1 + k)) (l.drop (1 + k)) s0 w := by
  have := hc.drop (1 + k)
  rw [Nat.zero_add] at this
  exact ⟨by omega, this, ⟨B, h⟩, Fr.refl _ _, by simp, by omega, by simp; omega, by rw [Nat.sub_zero, hr], by rw [Nat.sub_zero, hr]⟩

theorem start0 {m g NN k : Nat} {w : World} {s0 : Idx} {B : Key → Option Nat} {r0 : List (Key × Int) × Bool} {l : List UInt8} (h : StoB m s0.2 B s0.1 w) (hc : Cells w g 0 l) (hk : l.length ≤ 1 + k) (hn : l.length ≤ 1048576) (hroom : s0.2 + l.length ≤ 4194304) (hr : ents NN (l.drop (1 + k)) = r0) :
    InL m g NN w s0 r0 0 0 (l.length - (1 + k)) (l.drop (1 + k)) s0 w :=
  ⟨by omega, fun j hj => by simp only [List.length_drop] at hj; omega, ⟨B, h⟩, Fr.refl _ _, by simp, by omega, by simp; omega, by rw [Nat.sub_zero, hr], by rw [Nat.sub_zero, hr]⟩

theorem stepN_le (F : Key → Option Int) (k : Key) (N : Nat) : stepN F k N ≤ N + 1 := by unfold stepN; split <;> omega

theorem InL.next {m g NN : Nat} {w : World} {s0 : Idx} {r0 : List (Key × Int) × Bool} {j o cap : Nat} {l : List UInt8} {s : Idx} {wr : World} (h : InL m g NN w s0 r0 j o cap l s wr) (hj : j < NN) (hg : g < m)
    {V k1 k2 : Nat} {v : Int} (hd1 : dec 0 0 l = some ((V : Int), k1)) (hg1 : ¬ l.length - k1 < V) (hd2 : dec 0 0 (l.drop (k1 + V)) = some (v, k2)) {o2 : Nat} {w1 w3 : World} (ha : w1.Alike wr)
    (hsto : ∃ B', StoB m (stepN s.1 ((l.drop k1).take V) s.2) B' (stepF s.1 ((l.drop k1).take V) (wrap64 v)) w3) (hf : Fr m w1 w3) (hc : Cells wr g o2 (l.drop (k1 + V + k2))) :
    InL m g NN w s0 r0 (j + 1) o2 (cap - (k1 + V) - k2) (l.drop (k1 + V + k2)) (step s ((l.drop k1).take V, wrap64 v)) w3 := by
  obtain ⟨a0, a1, a2, a3⟩ := dec_le _ 0 0 _ _ hd1
  obtain ⟨b0, b1, b2, b3⟩ := dec_le _ 0 0 _ _ hd2
  simp only [List.length_drop] at b1
  have e := ents_yes (n := NN - (j + 1)) hd1 hg1 hd2
  have hl := h.len
  have hr := h.room
  have hcp := h.hcap
  have hN := stepN_le s.1 ((l.drop k1).take V) s.2
  rw [show NN - (j + 1) + 1 = NN - j by omega] at e
  refine ⟨by omega, hc.of_block ((hf.low g hg).trans (by rw [ha.1])), hsto, (h.fr.alike ha).trans hf, by simp; omega, by omega, ?_, ?_, ?_⟩
  · simp only [step, List.length_drop]
    omega
  · rw [h.all, e]; rfl
  · rw [h.ok, e]

set_option maxRecDepth 100000 in
set_option maxHeartbeats 4000000 in
theorem decode_long (m c g : Nat) (l : List UInt8) (s0 : Idx) (B : Key → Option Nat) (w : World) (hS : StoB m s0.2 B s0.1 w) (hcap : w.heap[c]? = some (capObj m)) (hcm : c ≠ m) (hg : g < m)
    (hc : Cells w g 0 l) (h1 : ¬ l.length = 1) (h2 : 1 ≤ l.length) (hn : l.length ≤ 1048576) (hroom : s0.2 + l.length ≤ 4194304) (NN k : Nat) (hd : dec 0 0 (l.drop 1) = some ((NN : Int), k)) :
    Calls Try.prog 29 #[.slice (some ⟨g, 0, none⟩) l.length l.length, cloV c] w fun e w' => ∃ err, e = .returned err ∧ Left m w s0 err (ents NN (l.drop (1 + k))) w' := by
  have hc1 := hc.drop 1
  rw [Nat.zero_add] at hc1
  have hu := uvarint g 1 (l.length - 1) (l.length - 1) (l.drop 1) w (by simp) (by omega) hc1
  rw [dec2_some _ 0 0 _ _ hd] at hu
  obtain ⟨k0, k1, v0, v1⟩ := dec_le _ 0 0 _ _ hd
  simp only [Nat.zero_add, List.length_drop] at k1
  have hNN : NN ≤ 18446744073709551615 := by omega
  clear v0 v1 hc1 hd
  have HC : Hid (w.heap[c]? = some (capObj m)) := hcap
  have HW : Hid (Cells w g 0 l) := hc
  clear hcap hc
  generalize hr0 : ents NN (l.drop (1 + k)) = r0
  have HR : Hid (ents NN (l.drop (1 + k)) = r0) := hr0
  clear hr0
  go_enter Try.func29, Try.ntmps29
  go_wp2_with fail
  refine hu.mono ?_
  rintro e w ⟨rfl, rfl⟩
  clear hu
  go_wp2_with fail
  all_goals
    go_loopw [0, 26] (fun vb vi wr => ∃ (j o cap : Nat) (l' : List UInt8) (s : Idx), vb = .slice (some ⟨g, o, none⟩) l'.length cap ∧ vi = .int .u64 j ∧ InL m g NN w s0 r0 j o cap l' s wr) (fun _ vi _ => NN - (intOf vi).toNat)
    case atStart =>
      refine ⟨0, if l.length = 1 + k then 0 else 1 + k, l.length - (1 + k), l.drop (1 + k), s0, ?_, rfl, ?_⟩
      · simp [*]
      · by_cases hlk : l.length = 1 + k
        · rw [if_pos hlk]; exact start0 hS HW.out (by omega) hn hroom HR.out
        · rw [if_neg hlk]; exact start1 hS HW.out hn hroom HR.out
    case round =>
      obtain ⟨j, o, cap, l', s, rfl, rfl, hI⟩ := hrel
      have hj0 := hI.hj
      have hl0 := hI.len
      have hl1 := hI.hcap
      by_cases hj : j < NN
      · obtain ⟨q, hq⟩ : ∃ q, NN - j = q + 1 := ⟨NN - j - 1, by omega⟩
        have HQ : Hid (NN - j = q + 1) := hq
        clear hq
        cases hd1 : dec 0 0 l' with
        | none =>
          have HB : Hid (ents (NN - j) l' = ([], false)) := by show _ = _; rw [HQ.out]; exact ents_no hd1
          have hcut := cut_no g o l'.length cap l' wr rfl (by omega) hI.cells hd1
          clear hd1
          go_wp2_with fail
          refine hcut.mono ?_
          rintro e w1 ⟨rfl, rfl⟩
          go_wp2_with fail
          refine (errorsNew _ _).mono ?_
          rintro e w2 ⟨rfl, rfl⟩
          go_wp2_with fail
          go_ret
          exact ⟨_, rfl, hI.bad HB.out (alike_refl _) _ _ (alike_refl _)⟩
        | some vk =>
          obtain ⟨Vi, k1⟩ := vk
          obtain ⟨kk0, kk1, vv0, vv1⟩ := dec_le _ 0 0 _ _ hd1
          obtain ⟨V, rfl⟩ : ∃ V : Nat, Vi = (V : Int) := ⟨Vi.toNat, by omega⟩
          clear vv0 vv1
          simp only [Nat.zero_add] at kk1
          by_cases hg1 : l'.length - k1 < V
          · have HB : Hid (ents (NN - j) l' = ([], false)) := by show _ = _; rw [HQ.out]; exact ents_great hd1 hg1
            have hcut := cut_great g o l'.length cap V k1 l' wr rfl (by omega) hI.cells hd1 hg1
            clear hd1
            go_wp2_with fail
            refine hcut.mono ?_
            rintro e w1 ⟨rfl, rfl⟩
            go_wp2_with fail
            refine (errorsNew _ _).mono ?_
            rintro e w2 ⟨rfl, rfl⟩
            go_wp2_with fail
            go_ret
            exact ⟨_, rfl, hI.bad HB.out (alike_refl _) _ _ (alike_refl _)⟩
          · have hcut := cut_yes g o l'.length cap V k1 l' wr rfl (by omega) hl0 (by omega) hI.cells hd1 (by omega)
            cases hd2 : dec 0 0 (l'.drop (k1 + V)) with
            | none =>
              have HB : Hid (ents (NN - j) l' = ([], false)) := by show _ = _; rw [HQ.out]; exact ents_no2 hd1 hg1 hd2
              have hz := dec2_none _ 0 0 hd2
              have hu2 := fun (o' : Nat) (w1 : World) (ho : Cells w1 g o' (l'.drop (k1 + V))) => uvarint g o' (l'.length - (k1 + V)) (cap - (k1 + V)) (l'.drop (k1 + V)) w1 (by simp) (by omega) ho
              generalize (dec2 0 0 (l'.drop (k1 + V))).1 = z1 at hu2
              generalize (dec2 0 0 (l'.drop (k1 + V))).2 = z2 at hu2 hz
              clear hd1 hd2
              go_wp2_with fail
              refine hcut.mono ?_
              rintro e w1 ⟨o1, rfl, ho1, ha1⟩
              go_wp2_with fail
              refine (hu2 o1 w1 (ho1.of_block (by rw [ha1.1]))).mono ?_
              rintro e w1 ⟨rfl, rfl⟩
              go_wp2_with fail
              refine (errorsNew _ _).mono ?_
              rintro e w2 ⟨rfl, rfl⟩
              go_wp2_with fail
              go_ret
              exact ⟨_, rfl, hI.bad HB.out ha1 _ _ (alike_refl _)⟩
            | some vk2 =>
              obtain ⟨v, k2⟩ := vk2
              obtain ⟨b0, b1, b2, b3⟩ := dec_le _ 0 0 _ _ hd2
              simp only [List.length_drop, Nat.zero_add] at b1
              have hu2 := fun (o' : Nat) (w1 : World) (ho : Cells w1 g o' (l'.drop (k1 + V))) => uvarint g o' (l'.length - (k1 + V)) (cap - (k1 + V)) (l'.drop (k1 + V)) w1 (by simp) (by omega) ho
              rw [dec2_some _ 0 0 _ _ hd2] at hu2
              have HN : Hid (∀ (o2 : Nat) (w1 w3 : World), w1.Alike wr → (∃ B', StoB m (stepN s.1 ((l'.drop k1).take V) s.2) B' (stepF s.1 ((l'.drop k1).take V) (wrap64 v)) w3) → Fr m w1 w3 → Cells wr g o2 (l'.drop (k1 + V + k2)) →
                InL m g NN w s0 r0 (j + 1) o2 (cap - (k1 + V) - k2) (l'.drop (k1 + V + k2)) (step s ((l'.drop k1).take V, wrap64 v)) w3) :=
                fun o2 w1 w3 x1 x2 x3 x4 => hI.next hj hg hd1 hg1 hd2 x1 x2 x3 x4
              have hroom2 := hI.room
              have htl : ((l'.drop k1).take V).length ≤ maxLen := by simp only [List.length_take, List.length_drop]; unfold maxLen; omega
              have hNm : s.2 < maxLen := by unfold maxLen; omega
              have HT : Hid (((l'.drop k1).take V).length ≤ maxLen) := htl
              have HM : Hid (s.2 < maxLen) := hNm
              clear hd1 hd2 htl hNm b2 b3
              go_wp2_with fail
              refine hcut.mono ?_
              rintro e w1 ⟨o1, rfl, ho1, ha1⟩
              go_wp2_with fail
              refine (hu2 o1 w1 (ho1.of_block (by rw [ha1.1]))).mono ?_
              rintro e w1 ⟨rfl, rfl⟩
              go_wp2_with fail
              all_goals
                obtain ⟨B1, hs1⟩ := hI.sto
                refine (clo_any m c s.2 B1 s.1 _ _ w1 (hs1.same ha1.1) HT.out HM.out (capCell (cap_kept HC.out hcm (hI.fr.alike ha1)))).mono ?_
                rintro e w3 ⟨rfl, hsto, hf⟩
                go_wp2_with fail
                go_roundw
                case rel =>
                  by_cases hk2 : cap - (k1 + V) = k2
                  · first
                      | (exfalso; omega)
                      | exact ⟨j + 1, o1, cap - (k1 + V) - k2, l'.drop (k1 + V + k2), _, by simp; omega, by go_num, HN.out o1 w1 w3 ha1 hsto hf (fun i hi => by simp only [List.length_drop] at hi; omega)⟩
                  · first
                      | (exfalso; omega)
                      | exact ⟨j + 1, o1 + k2, cap - (k1 + V) - k2, l'.drop (k1 + V + k2), _, by simp; omega, by go_num, HN.out (o1 + k2) w1 w3 ha1 hsto hf (by have := ho1.drop k2; rwa [List.drop_drop] at this)⟩
                case measure => simp [intOf]; omega
      · obtain rfl : j = NN := by omega
        go_wp2_with fail
        go_ret
        exact ⟨_, rfl, hI.fin⟩

end Go.Proofs.Qxb6604758a
