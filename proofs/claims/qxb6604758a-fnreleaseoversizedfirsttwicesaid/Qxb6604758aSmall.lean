import Derived.Test.Qxb6604758aHoldFirst
import Derived.Test.Qxb6604758aHoldDown
import Derived.LaidEqlPtr
namespace Go.Proofs.Qxb6604758a
open Go.RowKit
set_option linter.unusedVariables false

set_option maxRecDepth 100000 in
set_option maxHeartbeats 400000 in
theorem zzhold (p : Value) (n : Int) (f r : Bool) (w : World) (R : World → Prop)
    (h : Calls Try.prog 21 #[p, .int .i64 n, .bool f] w fun e w' => e = .returned (.bool r) ∧ R w') :
    Calls Try.prog 8 #[p, .int .i64 n, .bool f] w fun e w' => e = .returned (.bool r) ∧ R w' := by
  have H : Hid (Calls Try.prog 21 #[p, .int .i64 n, .bool f] w fun e w' => e = .returned (.bool r) ∧ R w') := h
  clear h
  go_enter Try.func8, Try.ntmps8
  go_wp2_with fail
  refine (H.out).mono ?_
  rintro e w' ⟨rfl, hr⟩
  go_wp2
  go_ret
  exact ⟨rfl, hr⟩

set_option maxRecDepth 100000 in
set_option maxHeartbeats 400000 in
theorem release (p : Value) (r : Bool) (w : World) (R : World → Prop)
    (h : Calls Try.prog 21 #[p, .int .i64 0, .bool false] w fun e w' => e = .returned (.bool r) ∧ R w') :
    Calls Try.prog 9 #[p] w fun e w' => e = .returned (.tuple #[]) ∧ R w' := by
  have H : Hid (Calls Try.prog 21 #[p, .int .i64 0, .bool false] w fun e w' => e = .returned (.bool r) ∧ R w') := h
  clear h
  go_enter Try.func9, Try.ntmps9
  go_wp2_with fail
  refine (H.out).mono ?_
  rintro e w' ⟨rfl, hr⟩
  go_wp2
  go_end0
  exact ⟨rfl, hr⟩

set_option maxRecDepth 100000 in
set_option maxHeartbeats 400000 in
theorem claimHeld (c b : Nat) (h : Int) (w : World) (hc : Clm c b h w) :
    Calls Try.prog 10 #[.pointer (some ⟨c, 0, none⟩)] w fun e w' => e = .returned (.int .i64 h) ∧ w' = w := by
  obtain ⟨k0, k1, kf⟩ := hc
  go_enter Try.func10, Try.ntmps10
  go_wp2
  go_ret
  exact ⟨rfl, rfl⟩

set_option maxRecDepth 100000 in
set_option maxHeartbeats 400000 in
theorem budgetHeld (b : Nat) (size H : Int) (w : World) (hb : Bud b size H w) :
    Calls Try.prog 11 #[.pointer (some ⟨b, 0, none⟩)] w fun e w' => e = .returned (.int .i64 H) ∧ w' = w := by
  obtain ⟨b0, b1, b3, b4, b6, bf⟩ := hb
  go_enter Try.func11, Try.ntmps11
  go_wp2
  go_ret
  exact ⟨rfl, rfl⟩

set_option maxRecDepth 100000 in
set_option maxHeartbeats 400000 in
theorem newBudget (size : Int) (w : World) :
    Calls Try.prog 6 #[.int .i64 size] w fun e w' => e = .returned (.pointer (some ⟨w.heap.size, 0, none⟩)) ∧
      w' = w.alloc (.cells #[.int .i64 size, .int .i32 0, .int .u32 0, .int .i64 0, .int .i32 0, .int .u32 0, .chan none] 57) := by
  go_enter Try.func6, Try.ntmps6
  go_wp2
  go_ret
  exact ⟨rfl, rfl⟩

set_option maxRecDepth 100000 in
set_option maxHeartbeats 400000 in
theorem claim (b : Nat) (w : World) :
    Calls Try.prog 7 #[.pointer (some ⟨b, 0, none⟩)] w fun e w' => e = .returned (.pointer (some ⟨w.heap.size, 0, none⟩)) ∧
      w' = w.alloc (.cells #[.pointer (some ⟨b, 0, none⟩), .int .i64 0] 59) := by
  go_enter Try.func7, Try.ntmps7
  go_wp2
  go_ret
  exact ⟨rfl, rfl⟩

end Go.Proofs.Qxb6604758a
