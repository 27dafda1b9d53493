/-
  DERIVED. GIVEN WITH THE SEED: THE CARDS: each row of Qxb6003452aDoorRows.lean that lists a variable, with what it lists TIED to the program's text (the seventh form; the later family's looks); each row that meets fmt, with fmt's text TOLD by the authors' own Lean function (tested against real Go, not proved from fmt's source: count such statements apart). THE CARD IS WHAT COUNTS. Prove the row's statement (the work); the ties are given (Qxb6003452aDoorTie.lean); close each card by the builder's one call (the guide's Derived/Test/ToyasCard.lean, 'card_holds'). Laid BY PROGRAM, IN A SANDBOX (cutbox-door.mjs). By AI agents, Wed Nov 11 2026. No macro, syntax, notation, axiom, sorry.
-/
import Derived.Test.Qxb6003452aDoorRows
import GoSem.ClaimSeven
namespace Go.Proofs.Qxb6003452aDoor
namespace Rows

/-- THE TIED CARD OF 'zzlaws_ident_b1.FnAddMatchesSchoolbook'. -/
def fnAddMatchesSchoolbookCard : Claim7 := { stood := { row := fnAddMatchesSchoolbookRow, standIns := [], harness := (true, "76b464395e5af709817604f2478b0f5158ea891ffaa4ecd052f6380c206c2dd0"), looks := true }, kinds := [], alts := [], laidByText := true, laidKinds := [.data, .data, .data, .sentinel, .sentinel], laidTests := true, laidLooks := .later }
def FnAddMatchesSchoolbookCardSaid : Prop := Claim7.holds Tryd.pinned (.plain (OpenSpec.ofChange fnAddMatchesSchoolbookSpec)) fnAddMatchesSchoolbookCard

/-- THE TIED CARD OF 'zzlaws_ident_b1.FnAddComposes'. -/
def fnAddComposesCard : Claim7 := { stood := { row := fnAddComposesRow, standIns := [], harness := (true, "76b464395e5af709817604f2478b0f5158ea891ffaa4ecd052f6380c206c2dd0"), looks := true }, kinds := [], alts := [], laidByText := true, laidKinds := [.data, .data, .data, .sentinel, .sentinel], laidTests := true, laidLooks := .later }
def FnAddComposesCardSaid : Prop := Claim7.holds Tryd.pinned (.plain (OpenSpec.ofChange fnAddComposesSpec)) fnAddComposesCard

/-- THE TIED CARD OF 'zzlaws_ident_b1.FnAddIdentityOrderAndRefusal'. -/
def fnAddIdentityOrderAndRefusalCard : Claim7 := { stood := { row := fnAddIdentityOrderAndRefusalRow, standIns := [], harness := (true, "76b464395e5af709817604f2478b0f5158ea891ffaa4ecd052f6380c206c2dd0"), looks := true }, kinds := [], alts := [], laidByText := true, laidKinds := [.data, .data, .data, .sentinel, .sentinel], laidTests := true, laidLooks := .later }
def FnAddIdentityOrderAndRefusalCardSaid : Prop := Claim7.holds Tryd.pinned (.plain (OpenSpec.ofChange fnAddIdentityOrderAndRefusalSpec)) fnAddIdentityOrderAndRefusalCard
end Rows
end Go.Proofs.Qxb6003452aDoor
