import Derived.Test.Qxb6003464aChunk
import Derived.Deep.RegionHeld3
namespace Go.Proofs.Qxb6003464a
open Go.RowKit
set_option linter.unusedVariables false
set_option linter.unusedSimpArgs false

/-- What zzB2EndAt answers. -/
def endAt (n : Nat) (f : Nat → Int) (j : Nat) : Int := if j < n then f j else 0

set_option maxHeartbeats 400000 in
set_option maxRecDepth 1000000 in
theorem endAt_any (v : Value) (n : Nat) (f : Nat → Int) (j : Nat) (w : World) (h20 : n ≤ 1048576) (hj : j ≤ 1048576) (hin : Ints .i64 w v n f) :
    Calls Try.prog 32 #[v, .int .i64 j] w fun e w' => e = .returned (.int .i64 (endAt n f j)) ∧ w' = w := by
  obtain ⟨a, c, rfl, hc⟩ := hin
  by_cases hlt : j < n
  · obtain ⟨b, off, rfl, hb, hcj⟩ := hc j hlt
    have hr : endAt n f j = f j := if_pos hlt
    rw [hr]
    clear hr
    go_enter Try.func32, Try.ntmps32
    go_wp2
    go_ret
    exact ⟨rfl, rfl⟩
  · have hr : endAt n f j = 0 := if_neg hlt
    rw [hr]
    clear hr
    go_enter Try.func32, Try.ntmps32
    go_wp2
    go_ret
    exact ⟨rfl, rfl⟩

set_option maxHeartbeats 400000 in
set_option maxRecDepth 1000000 in
theorem oldAt_nil (j : Nat) (w : World) : Calls Try.prog 38 #[.slice none 0 0, .int .i64 j] w fun e w' => e = .returned (.int .i8 0) ∧ w' = w := by
  have h : ¬ (j : Int) < 0 := by omega
  go_enter Try.func38, Try.ntmps38
  go_wp2
  go_ret
  exact ⟨rfl, rfl⟩

set_option maxHeartbeats 400000 in
set_option maxRecDepth 1000000 in
theorem markAt_nil (j : Nat) (w : World) : Calls Try.prog 39 #[.slice none 0 0, .int .i64 j] w fun e w' => e = .returned (.bool false) ∧ w' = w := by
  have h : ¬ (j : Int) < 0 := by omega
  go_enter Try.func39, Try.ntmps39
  go_wp2
  go_ret
  exact ⟨rfl, rfl⟩

/-- The first j chunks of block C: the lengths of their items, their ends. -/
def Chunks (w : World) (C R : Nat) (L : Nat → Nat) (E : Nat → Int) (j : Nat) : Prop :=
  ∃ g, w.rowIs C 28 (R * 4) g ∧ ∀ i, i < j → (∃ a c, g (i * 4) = .slice a (L i) c) ∧ g (i * 4 + 1) = .int .i64 (E i)

theorem Chunks.carry {w w' : World} {C R j : Nat} {L : Nat → Nat} {E : Nat → Int} (h : Chunks w C R L E j) (hb : Bel w.heap.size w w') : Chunks w' C R L E j := by
  obtain ⟨g, hg, hi⟩ := h
  exact ⟨g, hg.of_block (hb.block C hg.lt), hi⟩

theorem Chunks.store {w : World} {C R j : Nat} {L : Nat → Nat} {E : Nat → Int} (h : Chunks w C R L E j) (a : Option Addr) (c : Nat) (u2 u3 : Value) :
    Chunks ((((w.setCell ⟨C, j * 4, none⟩ (.slice a (L j) c)).setCell ⟨C, j * 4 + 1, none⟩ (.int .i64 (E j))).setCell ⟨C, j * 4 + 2, none⟩ u2).setCell ⟨C, j * 4 + 3, none⟩ u3) C R L E (j + 1) := by
  obtain ⟨g, hg, hi⟩ := h
  refine ⟨_, (((hg.set (j * 4) _).set (j * 4 + 1) _).set (j * 4 + 2) u2).set (j * 4 + 3) u3, fun i hij => ?_⟩
  by_cases e : i = j
  · subst e
    exact ⟨⟨a, c, by simp [show ¬ (i * 4 = i * 4 + 3) by omega, show ¬ (i * 4 = i * 4 + 2) by omega, show ¬ (i * 4 = i * 4 + 1) by omega]⟩, by simp [show ¬ (i * 4 + 1 = i * 4 + 3) by omega, show ¬ (i * 4 + 1 = i * 4 + 2) by omega]⟩
  · obtain ⟨⟨a', c', h1⟩, h2⟩ := hi i (by omega)
    exact ⟨⟨a', c', by rw [if_neg (by omega), if_neg (by omega), if_neg (by omega), if_neg (by omega)]; exact h1⟩, by rw [if_neg (by omega), if_neg (by omega), if_neg (by omega), if_neg (by omega)]; exact h2⟩

theorem Ints.alike {k : IntKind} {w w' : World} {v : Value} {n : Nat} {f : Nat → Int} (h : Ints k w v n f) (e : w'.heap = w.heap) : Ints k w' v n f := by
  obtain ⟨a, c, hv, hi⟩ := h
  refine ⟨a, c, hv, fun i hin => ?_⟩
  obtain ⟨b, off, ha, hlt, hc⟩ := hi i hin
  exact ⟨b, off, ha, by rw [e]; exact hlt, by simp only [World.cell?, e] at hc ⊢; exact hc⟩

theorem Bel.alike {B : Nat} {w w' w1 : World} (h : Bel B w1 w') (e : w1.heap = w.heap) (e2 : w1.os = w.os) (e3 : w1.output = w.output) : Bel B w w' :=
  ⟨h.os.trans e2, h.output.trans e3, by have := h.size; rw [e] at this; exact this, fun k hk => by have := h.block k hk; rw [e] at this; exact this⟩

/-- The cells of chunk j, behind the call that made it. -/
theorem Chunks.cells {w : World} {C R j i : Nat} {L : Nat → Nat} {E : Nat → Int} (h : Chunks w C R L E i) (hj : j < R) (t : Nat) (ht : t < 4) :
    (∃ x, w.cell? ⟨C, j * 4 + t, none⟩ = some x) ∧ w.frozen? ⟨C, j * 4 + t, none⟩ = false := by
  obtain ⟨g, hg, _⟩ := h
  exact ⟨⟨_, hg.cell (by omega)⟩, hg.frozen _⟩

set_option maxHeartbeats 1600000 in
set_option maxRecDepth 1000000 in
theorem build_any (v ev : Value) (R n : Nat) (L : Nat → Nat) (f : Nat → Int) (w : World) (h20 : R ≤ 1048576) (hL : ∀ r, r < R → L r ≤ 1048576) (hn : n ≤ 1048576) (hin : Rows8 w v R L) (hev : Ints .i64 w ev n f) :
    Calls Try.prog 26 #[v, ev, .slice none 0 0, .slice none 0 0] w fun e w' => e = .returned (.slice (some ⟨w.heap.size, 0, none⟩) R R) ∧ Chunks w' w.heap.size R L (endAt n f) R ∧ Bel w.heap.size w w' := by
  obtain ⟨b, off, c, rfl, hb, hr⟩ := hin
  obtain ⟨i0, hi, hz0, hz1, hz2⟩ := info_parts Try.info28
  have hmk := fun W => run_make (P := Try.prog) W 46 28 i0 _ Try.underlying46 hi hz0 .i64 .i64 (R : Int) (R : Int) (by omega) (Int.le_refl _) (by rw [hz2]; omega) (by omega)
  rw [hz1] at hmk
  go_enter Try.func26, Try.ntmps26
  go_wp2_with fail
  clear hmk
  go_loopg [10] R (fun k i wr => ∃ j, k = R - j ∧ j ≤ R ∧ i = .int .i64 j ∧ Chunks wr w.heap.size R L (endAt n f) j ∧ Bel w.heap.size w wr)
  case atStart =>
    refine ⟨0, rfl, Nat.zero_le _, rfl, ⟨fun i => (madeCells #[Value.slice none 0 0, .int .i64 0, .int .i8 0, .bool false] (R * 4)).getD i (.bool false), ?_, fun r hr => absurd hr (Nat.not_lt_zero _)⟩, (Bel.refl _ _).alloc (Nat.le_refl _) _⟩
    have h1 := World.rowIs_alloc w (madeCells #[Value.slice none 0 0, .int .i64 0, .int .i8 0, .bool false] (R * 4)) 28 (fun i => (madeCells #[Value.slice none 0 0, .int .i64 0, .int .i8 0, .bool false] (R * 4)).getD i (.bool false)) (fun i hi => by simp [Array.getD, hi])
    rw [size_madeCells] at h1
    exact h1
  case round =>
    obtain ⟨j, hk, hj, rfl, hch, hbel⟩ := hrel
    by_cases hlt : j < R
    · obtain ⟨x, fx, hx, hxi⟩ := hr j hlt
      have hxc : wr.cell? ⟨b, off + j, none⟩ = some x := (hbel.cell (by exact hb)).trans hx
      have hxi' := hxi.carry hbel
      have hev' := hev.carry hbel
      have hLj := hL j hlt
      have hbw : b < wr.heap.size := Nat.lt_of_lt_of_le hb hbel.size
      obtain ⟨xa, xc, rfl, _⟩ := hxi
      have hevs := hev'
      obtain ⟨ea, ec, rfl, _⟩ := hevs
      have hlt' : (j : Int) < (R : Int) := by omega
      have hge' : (0 : Int) ≤ (j : Int) := by omega
      have hne1 : ¬ b = w.heap.size := by omega
      have hne2 : ¬ w.heap.size = b := by omega
      go_wp2_with fail
      go_region_held3 (fun w' => w'.cell? ⟨b, off + j, none⟩ = some (.slice xa (L j) xc)) (go_keep)
        (first
          | (go_at_call 32; refine (endAt_any _ n f j _ hn (by omega) ?_).mono ?_; (exact hev'.alike rfl); rintro e w' ⟨rfl, rfl⟩)
          | (go_at_call 38; refine (oldAt_nil j _).mono ?_; rintro e w' ⟨rfl, rfl⟩)
          | (go_at_call 39; refine (markAt_nil j _).mono ?_; rintro e w' ⟨rfl, rfl⟩)
          | (go_at_call 13; refine (chunk_any _ (L j) fx _ _ hLj ?_).mono ?_; (exact hxi'.alike rfl); rintro e w1 ⟨N, rfl, hb1⟩; have hb2 := hb1.alike (w := wr) rfl rfl rfl; have hx1 := (hb2.cell (p := ⟨b, off + j, none⟩) hbw).trans hxc; have hch1 := hch.carry hb2; obtain ⟨⟨x0, cx0⟩, fx0⟩ := hch1.cells hlt 0 (by omega); rw [Nat.add_zero] at cx0 fx0; obtain ⟨⟨x1, cx1⟩, fx1⟩ := hch1.cells hlt 1 (by omega); obtain ⟨⟨x2, cx2⟩, fx2⟩ := hch1.cells hlt 2 (by omega); obtain ⟨⟨x3, cx3⟩, fx3⟩ := hch1.cells hlt 3 (by omega)))
      have HO := hch1.store (some ⟨N, 0, none⟩) (L j) (.int .i8 0) (.bool false)
      have hb3 : Bel w.heap.size w w1 := hbel.trans (hb2.mono hbel.size)
      have HB := (((hb3.setCell (p := ⟨w.heap.size, j * 4, none⟩) (Nat.le_refl _) (.slice (some ⟨N, 0, none⟩) (L j) (L j))).setCell (p := ⟨w.heap.size, j * 4 + 1, none⟩) (Nat.le_refl _) (.int .i64 (endAt n f j))).setCell (p := ⟨w.heap.size, j * 4 + 2, none⟩) (Nat.le_refl _) (.int .i8 0)).setCell (p := ⟨w.heap.size, j * 4 + 3, none⟩) (Nat.le_refl _) (.bool false)
      clear hb3 hb2 hb1 hch1 hch cx0 cx1 cx2 cx3 fx0 fx1 fx2 fx3 hx1 hxi' hev' hev hx hxc
      go_wp2
      go_roundg (R - (j + 1))
      case measure => omega
      case rel => exact ⟨j + 1, rfl, by omega, by go_num, HO, HB⟩
    · obtain rfl : j = R := by omega
      go_wp2
      go_ret
      exact ⟨rfl, hch, hbel⟩

end Go.Proofs.Qxb6003464a
