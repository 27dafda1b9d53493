import Derived.Test.Qxb6604758aSmall
namespace Go.Proofs.Qxb6604758a
open Go.RowKit
set_option linter.unusedVariables false

abbrev budObj (size : Int) : Obj := .cells #[.int .i64 size, .int .i32 0, .int .u32 0, .int .i64 0, .int .i32 0, .int .u32 0, .chan none] 57
abbrev clmObj (b : Nat) : Obj := .cells #[.pointer (some ⟨b, 0, none⟩), .int .i64 0] 59

/-- The world behind NewBudget and two Claims. -/
structure Three (size : Int) (w W : World) : Prop where
  bud : Bud w.heap.size size 0 W
  c1 : Clm (w.heap.size + 1) w.heap.size 0 W
  c2 : Clm (w.heap.size + 2) w.heap.size 0 W
  grown : Grown w W
  ne : (binOp .eql 24 (.pointer (some ⟨w.heap.size + 1, 0, none⟩)) (.pointer (some ⟨w.heap.size + 2, 0, none⟩))).run Try.prog W = .ok (.bool false) W

theorem Try.size59 : (Try.prog.info? 59).map (·.size) = some 2 := by kernel_rfl

theorem three (size : Int) (w : World) : Three size w (((w.alloc (budObj size)).alloc (clmObj w.heap.size)).alloc (clmObj w.heap.size)) := by
  refine ⟨⟨?_, ?_, ?_, ?_, ?_, ?_⟩, ⟨?_, ?_, ?_⟩, ⟨?_, ?_, ?_⟩, ?_, ?_⟩
  rotate_right 1
  · obtain ⟨j, hj, hjs⟩ := Option.map_eq_some_iff.1 Try.size59
    refine run_eql_ptr_other _ Try.underlying24 hj (by rw [hjs]; decide) (by simp) (ca := #[.pointer (some ⟨w.heap.size, 0, none⟩), .int .i64 0]) (ta := 59) (cb := #[.pointer (some ⟨w.heap.size, 0, none⟩), .int .i64 0]) (tb := 59) ?_ ?_
    · show (((w.heap.push _).push _).push _)[w.heap.size + 1]? = _
      simp [Array.getElem_push]
    · show (((w.heap.push _).push _).push _)[w.heap.size + 2]? = _
      simp [Array.getElem_push]
  rotate_right 1
  · exact (((Grown.refl w).alloc _ _).alloc _ _).alloc _ _
  all_goals try intro o
  all_goals go_simp

end Go.Proofs.Qxb6604758a
