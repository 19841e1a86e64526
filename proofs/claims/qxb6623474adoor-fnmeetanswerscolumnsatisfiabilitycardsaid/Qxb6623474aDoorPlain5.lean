/-
  The plain law, put together.
-/
import Derived.Test.Qxb6623474aDoorPlain4
set_option linter.unusedVariables false
set_option linter.unusedSimpArgs false
namespace Go.Proofs.Qxb6623474aDoor

/-- What the first i atoms left of a search. -/
def RepSt (A : Nat → Atom) (i : Nat) (st : Sea) : Prop := ∀ col, RepC A i col (st.cols col) (st.ex col)

theorem repSt_zero (A : Nat → Atom) : RepSt A 0 ⟨fun _ => Col.zero, fun _ _ => false⟩ := fun col => rep_zero A col

theorem all_false {A : Nat → Atom} {i : Nat} {null : Bool} {x : Int} {loose : Bool} {j : Nat} (hj : j < i + 1) (h : okAt A i null x loose j = false) : meetsF A i null x loose = false := allB_false j hj h

theorem want_none {A : Nat → Atom} {i : Nat} {c : Col} {ex : Int → Bool} (hR : RepC A i (A i).col c ex) (hd : (A i).dom) (hs : stepCol c (A i) = none) : wantB A i = false := by
  unfold wantB
  have hii : i < i + 1 := by omega
  -- no comparison is met by NULL, and no number meets both
  have h11 : (A i).op ≠ 11 := fun h => by simp [stepCol, h] at hs
  have h12 : (A i).op ≠ 12 := fun h => by simp [stepCol, h] at hs
  have hnull : meetsF A i true 0 false = false := all_false hii (by simp [okAt, holdsF, h11, h12])
  have no : ∀ loose x, ¬ Good A i loose x := by
    intro loose x hg
    unfold Good at hg
    cases hnul : (A i).nul with
    | true =>
      rw [all_false hii (by simp [okAt, holdsF, h11, h12, hnul])] at hg
      cases hg
    | false =>
      have h2 : (A i).op = 2 := by
        by_cases h2 : (A i).op = 2
        · exact h2
        · exfalso
          simp only [stepCol, h11, h12, hnul, h2, if_false, Bool.false_eq_true] at hs
          split at hs
          · cases hs
          · split at hs <;> cases hs
      have hm : ∃ m, c.eq = some m ∧ m ≠ (A i).n := by
        cases he : c.eq with
        | none => simp [stepCol, h2, hnul, he] at hs
        | some m => exact ⟨m, rfl, fun e => by simp [stepCol, h2, hnul, he, cmp_eq, e] at hs⟩
      obtain ⟨m, he, hne⟩ := hm
      obtain ⟨⟨j, hj, hc, ho, hn⟩, _⟩ := hR.eq1 m he
      have hjn : (A j).nul = false := hR.ok j hj hc (by rw [ho]; decide) (by rw [ho]; decide)
      by_cases hx : x = (A i).n
      · rw [all_false (j := j) (by omega) (by simp [okAt, holdsF, hc, ho, hjn, hn, hx]; exact fun e => hne e.symm)] at hg
        cases hg
      · rw [all_false hii (by simp [okAt, holdsF, h2, hnul, hx])] at hg
        cases hg
  rw [hnull, wit_none (no _), wit_none (no _)]
  rfl

/-- THE PLAIN LAW: meet's answer is what the law wants. -/
theorem meet_want {A : Nat → Atom} {i : Nat} {st : Sea} (hR : RepSt A i st) (hd : ∀ j, j < i + 1 → (A j).dom) : meetB st (A i) = wantB A i := by
  unfold meetB
  cases hs : stepCol (st.cols (A i).col) (A i) with
  | none => simp only; exact (want_none (hR _) (hd i (by omega)) hs).symm
  | some c =>
    simp only
    have := rep_step (hR _) (hd i (by omega)) hs
    rw [← want_some this hd]
    congr 1
    funext v
    simp [stepEx]

theorem next_rep {A : Nat → Atom} {i : Nat} {st : Sea} (hR : RepSt A i st) (hd : (A i).dom) (hm : meetB st (A i) = true) : RepSt A (i + 1) (next st (A i)) := by
  intro col
  unfold meetB at hm
  cases hs : stepCol (st.cols (A i).col) (A i) with
  | none => rw [hs] at hm; cases hm
  | some c =>
    by_cases hc : col = (A i).col
    · subst hc
      have := rep_step (hR _) hd hs
      simp only [next, if_true, hs, Option.getD_some]
      have e : stepEx st.ex (A i) (A i).col = fun v => (isNe (A i) && decide (v = (A i).n)) || st.ex (A i).col v := by funext v; simp [stepEx]
      rw [e]; exact this
    · simp only [next, if_neg hc]
      have e : stepEx st.ex (A i) col = st.ex col := by funext v; simp [stepEx, hc]
      rw [e]
      exact rep_other (hR col) (fun h => hc h.symm)

end Go.Proofs.Qxb6623474aDoor
