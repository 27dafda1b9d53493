/- The row's proof: the guide's frame for a law over slices, with Bel (Qxb6003464aBase) in Below's place; the walk is Qxb6003464aLawWalk's. -/
import Derived.Test.Qxb6003464aRows
import Derived.Test.Qxb6003464aLawWalk
import Derived.WalkKit
import Derived.ProofKit
import Derived.OpenShut
import Derived.ShutString
import Derived.ChangeOld
import Derived.Below
import Derived.Deep.Matrix
namespace Go.Proofs.Qxb6003464a.fnListLenInsertAddsOne
open Go.ChangeShapes Go.WideShapes Go.ChangeAt Go.RowKit
open Go.ChangeMaps (open_string shut_string)
set_option linter.unusedVariables false

theorem own : ownKnob Try.prog.godebug = none := by kernel_rfl
theorem laidOut : laidOutB Try.prog = true := by kernel_rfl

/-- A slice of integers that came in. -/
theorem ints_in {k : IntKind} {w : World} {a : Option Addr} {len cap : Nat} {zs : List Int} (hl : len ≤ zs.length) (h : ∀ x, a = some x → ∀ i, i < zs.length → w.cell? (x.add i) = some (.int k (zs.getD i 0))) (hn : a = none → len = 0) :
    Ints k w (.slice a len cap) len (fun i => zs.getD i 0) := by
  refine ⟨a, cap, rfl, fun i hi => ?_⟩
  cases a with
  | none => have := hn rfl; omega
  | some x =>
    obtain ⟨b, off, rfl, hc⟩ := ints_at (h x rfl) (by omega)
    exact ⟨b, off, rfl, World.block_lt_of_cell? _ _ (hc i (by omega)), hc i (by omega)⟩

set_option maxRecDepth 100000 in
theorem lifted (os : Os) (started : os.Started) (H : Type) (enc : TypeId × Value → H) :
    ReturnsInHanded {} Try.checked os 7 .any (Rows.fnListLenInsertAddsOneSpec.pre6 enc Try.prog Try.f7 Rows.fnListLenInsertAddsOneRow.domain false) (Rows.fnListLenInsertAddsOneSpec.post enc Try.prog Try.f7 false true false false) := by
  refine returnsInHanded_of_change (C := Try.checked) own started (by kernel_rfl) Try.func7
    (ChangeSpec.witness6 (enc := enc) (C := Try.checked) false ⟨#[], #[.slice none 0 0, .slice none 0 0, .int .i64 0, .int .i8 0], []⟩ 8 (by kernel_rfl) (by kernel_rfl) (by kernel_rfl) (by kernel_rfl)) ?_
  intro W base args ds gs before hval0 hW hcnd _
  have hval : ∀ (j : Nat) t v, Try.f7.params[j]? = some t → args[j]? = some v → Value.okWide Try.prog W .any base t v := hval0
  have hW' := hW
  obtain ⟨p, q, hA0, hV, rfl, hfz, hnd⟩ := hW
  have hA : DataW.TrodAll enc Try.prog W 0 (fun _ => true) true Try.f7.params.toList args.toList ds p := hA0
  rw [Try.params7] at hA hval
  obtain ⟨v0, vs0, d0, ds0, p0, q0, hargs, rfl, rfl, h0, r0⟩ := trodAll_cons hA
  obtain ⟨v1, vs1, d1, ds1, p1, q1, rfl, rfl, rfl, h1, r1⟩ := trodAll_cons r0
  obtain ⟨v2, vs2, d2, ds2, p2, q2, rfl, rfl, rfl, h2, r2⟩ := trodAll_cons r1
  obtain ⟨v3, vs3, d3, ds3, p3, q3, rfl, rfl, rfl, h3, r3⟩ := trodAll_cons r2
  obtain ⟨rfl, rfl, rfl⟩ := trodAll_nil r3
  obtain rfl : args = #[v0, v1, v2, v3] := by cases args; simp_all
  obtain ⟨rfl, rfl⟩ := trodVars_none hV
  obtain ⟨a0, len0, cap0, rfl⟩ := okWide_slice Try.underlying38 (hval 0 38 v0 rfl rfl)
  have k0 := h0
  have lt0 : ∀ x ∈ p0, x.block < W.heap.size := by obtain ⟨m, hm⟩ := k0; exact DataW.trod_lt m _ _ _ hm
  obtain ⟨L, hR, hLm, hin⟩ : ∃ L : Nat → Nat, len0 ≤ maxLen ∧ (∀ r, r < len0 → L r ≤ maxLen) ∧ RowsIn W (.slice a0 len0 cap0) len0 L := by
    obtain ⟨fuel, hf⟩ := h0
    rcases Go.Deep.open_int_rows Try.underlying38 Try.underlying22 Try.underlying23 (by kernel_rfl) (by kernel_rfl) hf with ⟨hcs, _⟩ | ⟨a, l, c, A, L, C, Z, hcs, _, hl, hm, _, hrows⟩
    · simp [Value.cells] at hcs
      obtain ⟨rfl, rfl, rfl⟩ := hcs
      exact ⟨fun _ => 0, Nat.zero_le _, fun r hr => absurd hr (Nat.not_lt_zero _), none, 0, rfl, fun r hr => absurd hr (Nat.not_lt_zero _)⟩
    · simp [Value.cells] at hcs
      obtain ⟨rfl, rfl, rfl⟩ := hcs
      refine ⟨L, by omega, fun r hr => ?_, some a, cap0, rfl, fun r hr => ?_⟩
      · have := hrows r (by omega)
        omega
      · obtain ⟨hc, hLC, _, hZ, _, hnone, hcell⟩ := hrows r (by omega)
        obtain ⟨ab, ao, aspot⟩ := a
        have hspot : aspot = none := by simpa [Addr.add] using World.cell?_spot (hrows 0 (by omega)).1
        subst hspot
        rw [Go.WideShapes.add_plain] at hc
        refine ⟨ab, ao, _, fun i => (Z r).getD i 0, rfl, World.block_lt_of_cell? _ _ hc, hc, ints_in (by omega) (fun x hx i hi => (hcell x hx).2 i (by omega)) (fun hn => by have := hnone hn; omega)⟩
  obtain ⟨a1, len1, cap1, rfl⟩ := okWide_slice Try.underlying39 (hval 1 39 v1 rfl rfl)
  have k1 := h1
  have lt1 : ∀ x ∈ p1, x.block < W.heap.size := by obtain ⟨m, hm⟩ := k1; exact DataW.trod_lt m _ _ _ hm
  obtain ⟨fe, hn, hie⟩ : ∃ fe : Nat → Int, len1 ≤ maxLen ∧ Ints .i64 W (.slice a1 len1 cap1) len1 fe := by
    obtain ⟨fuel, hf⟩ := h1
    rcases open_ints Try.underlying39 Try.underlying3 (by kernel_rfl) hf with ⟨hcs, _⟩ | ⟨x, l, c, zs, hcs, _, hl, hm, hz, _, hcell, hwz⟩
    · simp [Value.cells] at hcs
      obtain ⟨rfl, rfl, rfl⟩ := hcs
      exact ⟨fun _ => 0, Nat.zero_le _, none, 0, rfl, fun r hr => absurd hr (Nat.not_lt_zero _)⟩
    · simp [Value.cells] at hcs
      obtain ⟨rfl, rfl, rfl⟩ := hcs
      have hz' : zs.length = cap1 := by simpa using hz
      exact ⟨_, by omega, ints_in (zs := zs) (by omega) (fun y hy i hi => by simp only [Option.some.injEq] at hy; subst hy; exact hcell i hi) (fun hn => by cases hn)⟩
  obtain ⟨a2, rfl, rfl, rfl, w2⟩ := open_int Try.underlying3 (hval 2 3 v2 rfl rfl) h2
  obtain ⟨a3, rfl, rfl, rfl, w3⟩ := open_int Try.underlying23 (hval 3 23 v3 rfl rfl) h3
  clear hA0 hval0
  refine (law_walk _ len0 len1 a1 cap1 L fe a2 a3 W hR hn hLm hin hie).mono fun e W' ⟨he, bel⟩ => ?_
  subst he
  exact ⟨_, rfl, _, _, _, [], _, [], hW', trodAll_mk1 (shut_bool Try.underlying4 _), (trodAll_cons_mk (Bel.trod laidOut (by kernel_rfl) (of_decide_eq_true (by kernel_rfl)) k0 bel lt0) (trodAll_cons_mk (Bel.trod laidOut (by kernel_rfl) (of_decide_eq_true (by kernel_rfl)) k1 bel lt1) (trodAll_cons_mk (shut_int Try.underlying3 w2) (trodAll_cons_mk (shut_int Try.underlying23 w3) trodAll_mk0)))), rfl, bel.frame _, fun h => by cases h⟩

theorem over : Rows.fnListLenInsertAddsOneRow.holds Try.pinned (OpenSpec.ofChange Rows.fnListLenInsertAddsOneSpec) :=
  OpenClaim.holds_of_wide 7 Try.f7 rfl rfl rfl rfl rfl rfl rfl ⟨rfl, rfl, rfl, rfl, rfl⟩ rfl rfl rfl rfl rfl (by kernel_rfl) Try.func7 (by kernel_rfl)
    (of_decide_eq_true (by kernel_rfl)) (by unfold Func.isWrapper; first | (rw [if_pos (by decide +kernel)]; kernel_rfl) | (rw [if_neg (by decide +kernel)]; exact ⟨rfl, rfl⟩))
    (fun os started H enc _ => lifted os started H enc)

theorem proved : Rows.FnListLenInsertAddsOneSaid := over
end Go.Proofs.Qxb6003464a.fnListLenInsertAddsOne
