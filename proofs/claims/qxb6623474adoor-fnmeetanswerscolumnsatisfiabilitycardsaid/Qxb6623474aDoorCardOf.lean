/-
  The card, out of the row and the given tie (under meet's contract).
-/
import Derived.Test.Qxb6623474aDoorRow
import Derived.Test.Qxb6623474aDoorTie
import Derived.Test.Qxb6623474aDoorCards
import Derived.SevenTiedAt
set_option linter.unusedVariables false
namespace Go.Proofs.Qxb6623474aDoor
open Go

theorem card_of (hM : MeetsOk) : Rows.FnMeetAnswersColumnSatisfiabilityCardSaid :=
  Claim7.holds_tied_plain_at .later [] [.data, .data, .data] true (true, "6ecbd6237cec27f9273b31886685185f8a53546ec1443883f7094fda1aa74a85") false
    (row_of hM) (fun _ h => by cases h) (by kernel_rfl) (fun _ h => by cases h) fnMeetAnswersColumnSatisfiability_row_tie rfl ⟨rfl, rfl⟩ (by kernel_rfl) rfl
    (fun f fn hf hfn => by
      obtain rfl : f = 3 := Option.some.inj ((show Tryd.prog.funcNamed "example.com/fragmenta/fragmenta/zzlaws_pkg_localize_b1.FnMeetAnswersColumnSatisfiability" = some 3 by kernel_rfl).symm.trans hf) |>.symm
      obtain rfl : fn = Tryd.f3 := (Option.some.inj (Tryd.func3.symm.trans hfn)).symm
      exact ⟨by kernel_rfl, fun j t ht => by
        rw [Tryd.params3] at ht
        have h3 : t = 22 := by
          rcases j with _ | j
          · simpa using ht.symm
          · simp at ht
        subst h3
        exact (show Tryd.prog.wantsStandIn 22 = false by kernel_rfl)⟩)
    (by kernel_rfl)

end Go.Proofs.Qxb6623474aDoor
