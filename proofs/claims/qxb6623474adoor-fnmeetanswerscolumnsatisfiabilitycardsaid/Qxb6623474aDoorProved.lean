/-
  THE STATEMENT Rows.FnMeetAnswersColumnSatisfiabilityCardSaid.
-/
import Derived.Test.Qxb6623474aDoorCardOf
import Derived.Test.Qxb6623474aDoorMeet1
namespace Go.Proofs.Qxb6623474aDoor

theorem meets_ok : MeetsOk := fun B sb cm em k kt tv st a w hS hs hT hsb hne hk hkt hd hc hB htab => meet_walk B sb cm em k kt tv st a w hS hs hT hsb hne hk hkt hd hc hB htab

theorem proved : Rows.FnMeetAnswersColumnSatisfiabilityCardSaid := card_of meets_ok
#print axioms proved
end Go.Proofs.Qxb6623474aDoor
