import Derived.Test.Qxb6003452aDoorLawFive
import Derived.ProofKit
import Derived.LaidMore
import Derived.OpenShut
import Derived.ShutString
import Derived.Stop.Joined
import Derived.Stop.LaidErr
namespace Go.Proofs.Qxb6003452aDoor
open Go.ChangeShapes Go.WideShapes Go.ChangeAt Go.RowKit
set_option linter.unusedVariables false

theorem own : ownKnob Tryd.prog.godebug = none := by kernel_rfl

/-- What the given rows list, all three of them alike. -/
abbrev laid : List (String × DataW Unit) := Rows.fnAddMatchesSchoolbookRow.laid

/-- The door's own heap meets the condition. -/
theorem door_met (os : Os) (args : Array Value) : laidMetH Tryd.prog laid ((World.doorLaid Tryd.prog 62 os).forCall (fun _ _ => 0) ⟨#[], args, []⟩).memory :=
  laidMetH_of_parts3 (fuel := 8) (laidMet_of_run' 8 (by kernel_rfl) (by kernel_rfl)) (by kernel_rfl) (by kernel_rfl)

/-- What the condition gives the walks: the table of powers of ten. -/
theorem tab_of_laid {W : World} (h : laidMetH Tryd.prog laid W) : Lib.TabIs Tryd.prog W Tryd.tabName .u64 Lib.pow10Tab := by
  rw [MakeChecks.laidMetH_plain _ _ _ (by kernel_rfl)] at h
  have h2 : laidMet Tryd.prog ((Tryd.tabName, Lib.tabData .u64 Lib.pow10Tab) :: laid.drop 3) W := laidMet.tail (laidMet.tail h)
  exact Lib.tabIs_of_head (g := 2) (t := 74) (e := 22) (n := 20) (by kernel_rfl) (by kernel_rfl) Tryd.underlying74 Tryd.underlying22 (by kernel_rfl) (by kernel_rfl) h2

/-- A uint64 argument is a natural number below 2^64. -/
theorem u64_nat {x : Int} (h : (Lit.int .u64 x).wf = true) : ∃ n : Nat, x = (n : Int) ∧ n < 18446744073709551616 := by
  have hb := bounds_u64 h
  exact ⟨x.toNat, by omega, by omega⟩

end Go.Proofs.Qxb6003452aDoor
