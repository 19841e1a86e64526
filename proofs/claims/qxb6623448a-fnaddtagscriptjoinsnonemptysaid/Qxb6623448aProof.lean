/-
  THE STATEMENT Rows.FnAddTagScriptJoinsNonEmptySaid.
-/
import Derived.Test.Qxb6623448aLaw
import Derived.ProofKit
import Derived.OpenShut
import Derived.ChangeOld
import Derived.ShutString
import Derived.SliceStrings
set_option linter.unusedVariables false
namespace Go.Proofs.Qxb6623448a
open Go.ChangeShapes Go.WideShapes Go.ChangeAt Go.RowKit
open Go.ChangeMaps (open_string shut_string)

theorem own : ownKnob Try.prog.godebug = none := by kernel_rfl
theorem laidOut : laidOutB Try.prog = true := by kernel_rfl
theorem cells9 : Try.prog.cellsOf 9 = 1 := by kernel_rfl

theorem plain_of_cell {w : World} {x : Addr} {v : Value} (h : w.cell? x = some v) : x = ⟨x.block, x.off, none⟩ := by
  obtain ⟨b, o, sp⟩ := x
  have := World.cell?_spot h
  simp at this
  rw [this]

/-- A list of strings that came in. -/
theorem open_values {H : Type} {enc : TypeId × Value → H} {W : World} {v : Value} {d : DataW H} {ps : List MemPlace} (hv : ∃ a len cap, v = .slice a len cap)
    (h : DataW.Trod enc Try.prog W 0 (fun _ => true) true 22 v d ps) :
    ∃ (a : Option Addr) (n cap : Nat) (V : Nat → ByteArray), v = .slice a n cap ∧ StrsAt W a n V ∧ n ≤ 9223372036854775807 ∧ ∀ i, i < n → (V i).size ≤ 9223372036854775807 := by
  obtain ⟨a, len, cap, rfl⟩ := hv
  obtain ⟨fuel, hf⟩ := h
  rcases open_strings Try.underlying22 Try.underlying9 cells9 hf with ⟨hcs, _⟩ | ⟨x, l, c, ss, hcs, _, hl, hm, hz, _, hcell, hws⟩
  · simp [Value.cells] at hcs
    obtain ⟨rfl, rfl, rfl⟩ := hcs
    exact ⟨none, 0, 0, fun _ => ByteArray.empty, rfl, .inl rfl, by omega, fun i hi => absurd hi (Nat.not_lt_zero _)⟩
  · simp [Value.cells] at hcs
    obtain ⟨rfl, rfl, rfl⟩ := hcs
    have hz' : ss.length = cap := by simpa using hz
    unfold maxLen at hm hws
    refine ⟨some x, len, cap, fun i => ss.getD i ByteArray.empty, rfl, ?_, by omega, fun i hi => ?_⟩
    · by_cases h0 : len = 0
      · exact .inl h0
      · have c0 := hcell 0 (by omega)
        rw [show x.add 0 = x from rfl] at c0
        have e := plain_of_cell c0
        refine .inr ⟨x.block, x.off, by rw [← e], World.block_lt_of_cell? W _ c0, fun i hi => ?_⟩
        have := hcell i (by omega)
        rw [e] at this
        rwa [add_plain] at this
    · have hi' : i < ss.length := by omega
      exact hws (ss.getD i ByteArray.empty) (by simp [List.getD, hi'])

set_option maxRecDepth 100000 in
theorem lifted (os : Os) (started : os.Started) (H : Type) (enc : TypeId × Value → H) :
    ReturnsInHanded {} Try.checked os 3 .any (Rows.fnAddTagScriptJoinsNonEmptySpec.pre6 enc Try.prog Try.f3 Rows.fnAddTagScriptJoinsNonEmptyRow.domain false) (Rows.fnAddTagScriptJoinsNonEmptySpec.post enc Try.prog Try.f3 false true false false) := by
  refine returnsInHanded_of_change (C := Try.checked) own started (by kernel_rfl) Try.func3
    (ChangeSpec.witness6 (enc := enc) (C := Try.checked) false ⟨#[], #[.string ByteArray.empty, .slice none 0 0], []⟩ 8 (by kernel_rfl) (by kernel_rfl) (by kernel_rfl) (by kernel_rfl)) ?_
  intro W base args ds gs before hval0 hW hcnd _
  have hval : ∀ (j : Nat) t v, Try.f3.params[j]? = some t → args[j]? = some v → Value.okWide Try.prog W .any base t v := hval0
  have hW' := hW
  obtain ⟨p, q, hA0, hV, rfl, hfz, hnd⟩ := hW
  have hA : DataW.TrodAll enc Try.prog W 0 (fun _ => true) true Try.f3.params.toList args.toList ds p := hA0
  rw [Try.params3] at hA hval
  obtain ⟨v0, vs0, d0, ds0, p0, q0, hargs, rfl, rfl, h0, r0⟩ := trodAll_cons hA
  obtain ⟨v1, vs1, d1, ds1, p1, q1, rfl, rfl, rfl, h1, r1⟩ := trodAll_cons r0
  obtain ⟨rfl, rfl, rfl⟩ := trodAll_nil r1
  obtain rfl : args = #[v0, v1] := by cases args; simp_all
  obtain ⟨rfl, rfl⟩ := trodVars_none hV
  have k1 := h1
  have lt1 : ∀ x ∈ p1, x.block < W.heap.size := by obtain ⟨m, hm⟩ := k1; exact DataW.trod_lt m _ _ _ hm
  obtain ⟨s, rfl, rfl, rfl, hs⟩ := open_string Try.underlying9 (hval 0 9 v0 rfl rfl) h0
  obtain ⟨a, n, cap, V, rfl, la, fn, fV⟩ := open_values (okWide_slice Try.underlying22 (hval 1 22 v1 rfl rfl)) h1
  clear hA0 hval0
  refine (law_walk s a n cap V W la (by unfold maxLen at hs; omega) fn fV).mono fun e W' ⟨he, bel⟩ => ?_
  subst he
  exact ⟨_, rfl, _, _, _, [], _, [], hW', trodAll_mk1 (shut_bool Try.underlying4 _), (trodAll_cons_mk (shut_string Try.underlying9 hs) (trodAll_cons_mk (Below.trod laidOut (by kernel_rfl) (of_decide_eq_true (by kernel_rfl)) k1 bel lt1) trodAll_mk0)), rfl, bel.frame _, fun h => by cases h⟩

theorem proved : Rows.FnAddTagScriptJoinsNonEmptySaid :=
  OpenClaim.holds_of_wide 3 Try.f3 rfl rfl rfl rfl rfl rfl rfl ⟨rfl, rfl, rfl, rfl, rfl⟩ rfl rfl rfl rfl rfl (by kernel_rfl) Try.func3 (by kernel_rfl)
    (of_decide_eq_true (by kernel_rfl)) (by unfold Func.isWrapper; first | (rw [if_pos (by decide +kernel)]; kernel_rfl) | (rw [if_neg (by decide +kernel)]; exact ⟨rfl, rfl⟩))
    (fun os started H enc _ => lifted os started H enc)
#print axioms proved
end Go.Proofs.Qxb6623448a
