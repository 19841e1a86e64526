/-
  The row, out of the law's walk (under meet's contract).
-/
import Derived.Test.Qxb6623474aDoorOpen
import Derived.Stop.Joined
import Derived.Deep.DeepHandedRow
set_option linter.unusedVariables false
namespace Go.Proofs.Qxb6623474aDoor
open Go.ChangeShapes Go.WideShapes Go.ChangeAt Go.RowKit Go.Deep

theorem own : ownKnob Tryd.prog.godebug = none := by kernel_rfl
theorem gTab : Tryd.prog.globalNamed "internal/strconv.uint64pow10" = some 1 := by kernel_rfl
theorem tTab : (Tryd.prog.globals[1]?).map (·.type) = some 92 := by kernel_rfl
theorem cells85 : Tryd.prog.cellsOf 85 = 1 := by kernel_rfl
theorem cells92 : Tryd.prog.cellsOf 92 = 20 := by kernel_rfl

abbrev laid3 : List (String × DataW Unit) := [("math/bits.deBruijn32tab", Rows.laid_math_bits_deBruijn32tab), ("math/bits.deBruijn64tab", Rows.laid_math_bits_deBruijn64tab), ("internal/strconv.uint64pow10", Rows.laid_internal_strconv_uint64pow10)]

/-- The door's own heap meets the condition. -/
theorem door_met (os : Os) (args : Array Value) : laidMetH Tryd.prog laid3 ((World.doorLaid Tryd.prog 400 os).forCall (fun _ _ => 0) ⟨#[], args, []⟩).memory :=
  laidMetH_of_parts3 (fuel := 8) (laidMet_of_run' 8 (by kernel_rfl) (by kernel_rfl)) (by kernel_rfl) (by kernel_rfl)

theorem tab_of_laid {W : World} (h : laidMetH Tryd.prog laid3 W) : Tab W.heap.size W := by
  rw [MakeChecks.laidMetH_plain _ _ _ (by kernel_rfl)] at h
  exact Lib.tabBelow_of_tabIs (Lib.tabIs_of_head gTab tTab Tryd.underlying92 Tryd.underlying85 cells85 cells92 (rest := []) (show laidMet Tryd.prog [("internal/strconv.uint64pow10", Lib.tabData .u64 Lib.pow10Tab)] W from h.tail.tail))

set_option maxRecDepth 100000 in
theorem lifted (hM : MeetsOk) (os : Os) (started : os.Started) (H : Type) (enc : TypeId × Value → H) :
    ReturnsInHanded {} Tryd.checked os 3 .any (fun w args => (Rows.fnMeetAnswersColumnSatisfiabilitySpec.pre enc Tryd.prog Tryd.f3 [] false w args ∧ laidMetH Tryd.prog laid3 w) ∧ sizedMet enc Tryd.prog Tryd.f3 (OpenSpec.ofChange Rows.fnMeetAnswersColumnSatisfiabilitySpec) false w args)
      (Rows.fnMeetAnswersColumnSatisfiabilitySpec.post enc Tryd.prog Tryd.f3 false true false false) := by
  refine returnsInHanded_of_change_and (C := Tryd.checked) (X := fun w _ => laidMetH Tryd.prog laid3 w) (fun _ _ _ hh h => h.of_heap hh) own started (by kernel_rfl) Tryd.func3
    (ChangeSpec.witness_shaped (enc := enc) (C := Tryd.checked) (os := os) (X := fun w _ => laidMetH Tryd.prog laid3 w) false (World.doorLaid Tryd.prog 400 os) #[.slice none 0 0] 8 rfl (World.shaped_of_RefB (by kernel_rfl) (by kernel_rfl)) (by kernel_rfl) (by kernel_rfl) (by kernel_rfl) (door_met os _)) ?_
  intro W base args ds gs before hval0 hW _ _ hL _
  have hval : ∀ (j : Nat) t v, Tryd.f3.params[j]? = some t → args[j]? = some v → Value.okWide Tryd.prog W .any base t v := hval0
  have hW' := hW
  obtain ⟨p, q, hA0, hV, rfl, hfz, hnd⟩ := hW
  have hA : DataW.TrodAll enc Tryd.prog W 0 (fun _ => true) true Tryd.f3.params.toList args.toList ds p := hA0
  rw [Tryd.params3] at hA hval
  obtain ⟨v0, d0, rfl, rfl, h0⟩ := trodAll_one hA
  obtain ⟨rfl, rfl⟩ := trodVars_none hV
  have k0 := h0
  have lt0 : ∀ x ∈ p, x.block < W.heap.size := by obtain ⟨m, hm⟩ := k0; exact DataW.trod_lt m _ _ _ hm
  obtain ⟨a, n, cap, A, rfl, la, fn, fV, fc⟩ := open_atoms (okWide_slice Tryd.underlying22 (hval 0 22 v0 rfl rfl)) h0
  have tab := tab_of_laid hL
  clear hA0 hval0
  refine (law_walk hM a n cap A W la fn fV fc tab).mono fun e W' ⟨he, bel⟩ => ?_
  subst he
  exact ⟨_, rfl, _, _, _, [], _, [], hW', trodAll_mk1 (shut_bool Tryd.underlying4 _), (trodAll_mk1 (Below.trod laidOut (by kernel_rfl) (of_decide_eq_true (by kernel_rfl)) k0 bel lt0)), rfl, bel.frame _, fun h => by cases h⟩

theorem row_of (hM : MeetsOk) : Rows.FnMeetAnswersColumnSatisfiabilitySaid :=
  OpenClaim.holds_of_wide 3 Tryd.f3 rfl rfl rfl rfl rfl rfl rfl ⟨rfl, rfl, rfl, rfl, rfl⟩ rfl rfl rfl rfl rfl (by kernel_rfl) Tryd.func3 (by kernel_rfl)
    (of_decide_eq_true (by kernel_rfl)) (by unfold Func.isWrapper; first | (rw [if_pos (by decide +kernel)]; kernel_rfl) | (rw [if_neg (by decide +kernel)]; exact ⟨rfl, rfl⟩))
    (fun os started H enc _ => lifted hM os started H enc)

end Go.Proofs.Qxb6623474aDoor
