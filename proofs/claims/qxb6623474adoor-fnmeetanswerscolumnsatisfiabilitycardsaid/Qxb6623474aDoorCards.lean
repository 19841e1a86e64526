/-
  DERIVED. GIVEN WITH THE SEED: THE CARDS: each row of Qxb6623474aDoorRows.lean that lists a variable, with what it lists TIED to the program's text (the seventh form; the later family's looks); each row that meets fmt, with fmt's text TOLD by the authors' own Lean function (tested against real Go, not proved from fmt's source: count such statements apart). THE CARD IS WHAT COUNTS. Prove the row's statement (the work); the ties are given (Qxb6623474aDoorTie.lean); close each card by the builder's one call (the guide's Derived/Test/ToyasCard.lean, 'card_holds'). Laid BY PROGRAM, IN A SANDBOX (cutbox-door.mjs). By AI agents, Wed Nov 11 2026. No macro, syntax, notation, axiom, sorry.
-/
import Derived.Test.Qxb6623474aDoorRows
import GoSem.ClaimSeven
namespace Go.Proofs.Qxb6623474aDoor
namespace Rows

/-- THE TIED CARD OF 'zzlaws_pkg_localize_b1.FnMeetAnswersColumnSatisfiability'. -/
def fnMeetAnswersColumnSatisfiabilityCard : Claim7 := { stood := { row := fnMeetAnswersColumnSatisfiabilityRow, standIns := [], harness := (true, "6ecbd6237cec27f9273b31886685185f8a53546ec1443883f7094fda1aa74a85"), looks := false }, kinds := [], alts := [], laidByText := true, laidKinds := [.data, .data, .data], laidTests := true, laidLooks := .later }
def FnMeetAnswersColumnSatisfiabilityCardSaid : Prop := Claim7.holds Tryd.pinned (.plain (OpenSpec.ofChange fnMeetAnswersColumnSatisfiabilitySpec)) fnMeetAnswersColumnSatisfiabilityCard
end Rows
end Go.Proofs.Qxb6623474aDoor
