/-
  Which numbers meet the atoms of a column; what is wanted of meet's answer.
-/
import Derived.Test.Qxb6623474aDoorPlain
set_option linter.unusedVariables false
set_option linter.unusedSimpArgs false
namespace Go.Proofs.Qxb6623474aDoor

theorem atom_ok (a : Atom) (loose : Bool) (x : Int) (hd : a.dom) (hok : a.op ≠ 11 → a.op ≠ 12 → a.nul = false) :
    (if loose = true ∧ a.op = 3 ∧ a.nul = false then true else holdsF a false x) = true ↔
      a.op ≠ 11 ∧ (a.op = 2 → x = a.n) ∧ (a.op = 3 → loose = false → x ≠ a.n) ∧ ((a.op = 4 ∨ a.op = 5) → x ≤ closedAt a.op a.n) ∧ ((a.op = 6 ∨ a.op = 7) → closedAt a.op a.n ≤ x) := by
  obtain ⟨col, op, ty, nul, n, str⟩ := a
  simp only [Atom.dom] at hd
  simp only at hok ⊢
  rcases hd with rfl | rfl | ⟨hop, _⟩
  · simp [holdsF]
  · simp [holdsF]
  · have hnul : nul = false := by
      rcases hop with rfl | rfl | rfl | rfl | rfl | rfl <;> exact hok (by decide) (by decide)
    subst hnul
    rcases hop with rfl | rfl | rfl | rfl | rfl | rfl
    · simp [holdsF]
    · cases loose <;> simp [holdsF]
    · simp [holdsF, closedAt]; omega
    · simp [holdsF, closedAt]
    · simp [holdsF, closedAt]; omega
    · simp [holdsF, closedAt]

theorem good_iff {A : Nat → Atom} {i : Nat} {c : Col} {ex : Int → Bool} (hR : RepC A (i + 1) (A i).col c ex) (hd : ∀ j, j < i + 1 → (A j).dom) (loose : Bool) (x : Int) :
    Good A i loose x ↔ c.nul = false ∧ (∀ v, c.eq = some v → x = v) ∧ (∀ l, c.lo = some l → l ≤ x) ∧ (∀ h, c.hi = some h → x ≤ h) ∧ (loose = false → ex x = false) := by
  have key : Good A i loose x ↔ ∀ j, j < i + 1 → (A j).col = (A i).col →
      ((A j).op ≠ 11 ∧ ((A j).op = 2 → x = (A j).n) ∧ ((A j).op = 3 → loose = false → x ≠ (A j).n) ∧ (((A j).op = 4 ∨ (A j).op = 5) → x ≤ closedAt (A j).op (A j).n) ∧ (((A j).op = 6 ∨ (A j).op = 7) → closedAt (A j).op (A j).n ≤ x)) := by
    unfold Good meetsF
    rw [allB_iff]
    constructor
    · intro h j hj hc
      have := h j hj
      unfold okAt at this
      rw [if_pos hc] at this
      exact (atom_ok (A j) loose x (hd j hj) (fun h1 h2 => hR.ok j hj hc h1 h2)).1 this
    · intro h j hj
      unfold okAt
      by_cases hc : (A j).col = (A i).col
      · rw [if_pos hc]
        exact (atom_ok (A j) loose x (hd j hj) (fun h1 h2 => hR.ok j hj hc h1 h2)).2 (h j hj hc)
      · rw [if_neg hc]
  rw [key]
  constructor
  · intro h
    refine ⟨?_, ?_, ?_, ?_, ?_⟩
    · cases hn : c.nul with
      | false => rfl
      | true =>
        obtain ⟨j, hj, hc, ho⟩ := hR.nul.1 hn
        exact absurd ho (h j hj hc).1
    · intro v hv
      obtain ⟨⟨j, hj, hc, ho, hn⟩, _⟩ := hR.eq1 v hv
      rw [← hn]; exact (h j hj hc).2.1 ho
    · intro l hl
      obtain ⟨⟨j, hj, hc, ho, hn⟩, _⟩ := hR.lo1 l hl
      rw [← hn]; exact (h j hj hc).2.2.2.2 ho
    · intro l hl
      obtain ⟨⟨j, hj, hc, ho, hn⟩, _⟩ := hR.hi1 l hl
      rw [← hn]; exact (h j hj hc).2.2.2.1 ho
    · intro hlo
      cases he : ex x with
      | false => rfl
      | true =>
        obtain ⟨j, hj, hc, ho, hn⟩ := (hR.ex x).1 he
        exact absurd hn.symm ((h j hj hc).2.2.1 ho hlo)
  · rintro ⟨h1, h2, h3, h4, h5⟩ j hj hc
    refine ⟨?_, ?_, ?_, ?_, ?_⟩
    · intro ho
      have := hR.nul.2 ⟨j, hj, hc, ho⟩
      rw [h1] at this; cases this
    · intro ho
      cases he : c.eq with
      | none => exact absurd ho (hR.eq0 he j hj hc)
      | some v => rw [h2 v he]; exact ((hR.eq1 v he).2 j hj hc ho).symm
    · intro ho hl e
      have := (hR.ex x).2 ⟨j, hj, hc, ho, e.symm⟩
      rw [h5 hl] at this; cases this
    · intro ho
      cases he : c.hi with
      | none =>
        have := hR.hi0 he j hj hc
        rcases ho with ho | ho
        · exact absurd ho this.1
        · exact absurd ho this.2
      | some h => exact Int.le_trans (h4 h he) ((hR.hi1 h he).2 j hj hc ho)
    · intro ho
      cases he : c.lo with
      | none =>
        have := hR.lo0 he j hj hc
        rcases ho with ho | ho
        · exact absurd ho this.1
        · exact absurd ho this.2
      | some l => exact Int.le_trans ((hR.lo1 l he).2 j hj hc ho) (h3 l he)

theorem null_iff {A : Nat → Atom} {i : Nat} {c : Col} {ex : Int → Bool} (hR : RepC A (i + 1) (A i).col c ex) : meetsF A i true 0 false = true ↔ c.nn = false := by
  unfold meetsF
  rw [allB_iff]
  constructor
  · intro h
    cases hn : c.nn with
    | false => rfl
    | true =>
      obtain ⟨j, hj, hc, ho⟩ := hR.nn.1 hn
      have := h j hj
      unfold okAt at this
      rw [if_pos hc] at this
      simp [holdsF, ho] at this
  · intro h j hj
    unfold okAt
    by_cases hc : (A j).col = (A i).col
    · rw [if_pos hc]
      by_cases ho : (A j).op = 11
      · simp [holdsF, ho]
      · have := hR.nn.2 ⟨j, hj, hc, ho⟩
        rw [h] at this; cases this
    · rw [if_neg hc]

end Go.Proofs.Qxb6623474aDoor
