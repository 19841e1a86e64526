/-
  THE PLAIN LAW: meet's answer is what the law wants.
-/
import Derived.Test.Qxb6623474aDoorPlain3
set_option linter.unusedVariables false
set_option linter.unusedSimpArgs false
namespace Go.Proofs.Qxb6623474aDoor

noncomputable def wantB (A : Nat → Atom) (i : Nat) : Bool := meetsF A i true 0 false || witF A i false 1 || witF A i true 2

theorem wit_none {A : Nat → Atom} {i : Nat} {loose : Bool} {need : Int} (h : ∀ x, ¬ Good A i loose x) : witF A i loose need = false := by
  cases hw : witF A i loose need with
  | false => rfl
  | true =>
    rcases witF_iff.1 hw with ⟨_, x, _, hg⟩ | ⟨_, x, y, _, _, _, hg, _⟩
    · exact absurd hg (h x)
    · exact absurd hg (h x)
theorem wit_two_not {A : Nat → Atom} {i : Nat} {v : Int} (h : ∀ x, Good A i true x → x = v) : witF A i true 2 = false := by
  cases hw : witF A i true 2 with
  | false => rfl
  | true =>
    rcases witF_iff.1 hw with ⟨h2, _⟩ | ⟨_, x, y, hne, _, _, hx, hy⟩
    · cases h2
    · exact absurd ((h x hx).trans (h y hy).symm) hne
theorem wit_two {A : Nat → Atom} {i : Nat} (x y : Int) (hne : x ≠ y) (cx : Cand A i (i + 2) x) (cy : Cand A i (i + 2) y) (gx : Good A i true x) (gy : Good A i true y) : witF A i true 2 = true := witF_iff.2 (.inr ⟨rfl, x, y, hne, cx, cy, gx, gy⟩)
theorem wit_one {A : Nat → Atom} {i : Nat} (x : Int) (cx : Cand A i (i + 2) x) (gx : Good A i false x) : witF A i false 1 = true := witF_iff.2 (.inl ⟨rfl, x, cx, gx⟩)

theorem cand_of {A : Nat → Atom} {i : Nat} {c : Col} {ex : Int → Bool} (hR : RepC A (i + 1) (A i).col c ex) {j : Nat} (hj : j < i + 1) (hc : (A j).col = (A i).col) (h11 : (A j).op ≠ 11) (h12 : (A j).op ≠ 12) {x : Int} (h0 : (A j).n - 2 ≤ x) (h1 : x ≤ (A j).n + 2) : Cand A i (i + 2) x :=
  .inr ⟨j, by omega, ⟨hc, hR.ok j hj hc h11 h12, h11, h12⟩, h0, h1⟩
theorem cand_lo {A : Nat → Atom} {i : Nat} {c : Col} {ex : Int → Bool} (hR : RepC A (i + 1) (A i).col c ex) {l : Int} (hl : c.lo = some l) {x : Int} (h0 : l ≤ x) (h1 : x ≤ l + 1) : Cand A i (i + 2) x := by
  obtain ⟨⟨j, hj, hc, ho, hn⟩, _⟩ := hR.lo1 l hl
  rcases ho with ho | ho
  · rw [ho] at hn; simp [closedAt] at hn
    exact cand_of hR hj hc (by rw [ho]; decide) (by rw [ho]; decide) (by omega) (by omega)
  · rw [ho] at hn; simp [closedAt] at hn
    exact cand_of hR hj hc (by rw [ho]; decide) (by rw [ho]; decide) (by omega) (by omega)
theorem cand_hi {A : Nat → Atom} {i : Nat} {c : Col} {ex : Int → Bool} (hR : RepC A (i + 1) (A i).col c ex) {l : Int} (hl : c.hi = some l) {x : Int} (h0 : l - 1 ≤ x) (h1 : x ≤ l) : Cand A i (i + 2) x := by
  obtain ⟨⟨j, hj, hc, ho, hn⟩, _⟩ := hR.hi1 l hl
  rcases ho with ho | ho
  · rw [ho] at hn; simp [closedAt] at hn
    exact cand_of hR hj hc (by rw [ho]; decide) (by rw [ho]; decide) (by omega) (by omega)
  · rw [ho] at hn; simp [closedAt] at hn
    exact cand_of hR hj hc (by rw [ho]; decide) (by rw [ho]; decide) (by omega) (by omega)

theorem want_some {A : Nat → Atom} {i : Nat} {c : Col} {ex : Int → Bool} (hR : RepC A (i + 1) (A i).col c ex) (hd : ∀ j, j < i + 1 → (A j).dom) : answer c ex = wantB A i := by
  have G := good_iff hR hd
  have hN := null_iff hR
  unfold wantB answer
  by_cases hnul : c.nul = true
  · rw [if_pos hnul, wit_none (fun x hg => by rw [((G false x).1 hg).1] at hnul; cases hnul), wit_none (fun x hg => by rw [((G true x).1 hg).1] at hnul; cases hnul)]
    cases hnn : c.nn with
    | false => rw [hN.2 hnn]; rfl
    | true =>
      cases hm : meetsF A i true 0 false with
      | false => rfl
      | true => rw [hN.1 hm] at hnn; cases hnn
  · rw [if_neg hnul]
    have hnul' : c.nul = false := by cases h : c.nul with | false => rfl | true => exact absurd h hnul
    have hnn : c.nn = true := hR.nn.2 ⟨i, by omega, rfl, fun ho => hnul (hR.nul.2 ⟨i, by omega, rfl, ho⟩)⟩
    have hm : meetsF A i true 0 false = false := by
      cases hm : meetsF A i true 0 false with
      | false => rfl
      | true => rw [hN.1 hm] at hnn; cases hnn
    rw [hm, Bool.false_or]
    cases heq : c.eq with
    | some v =>
      simp only
      rw [wit_two_not (v := v) (fun x hg => ((G true x).1 hg).2.1 v heq), Bool.or_false]
      have hcv : Cand A i (i + 2) v := by
        obtain ⟨⟨j, hj, hc, ho, hn⟩, _⟩ := hR.eq1 v heq
        exact cand_of hR hj hc (by rw [ho]; decide) (by rw [ho]; decide) (by omega) (by omega)
      rw [Bool.eq_iff_iff, Bool.and_eq_true, Bool.and_eq_true, inB_lo, inB_hi, Bool.not_eq_true', witF_iff]
      constructor
      · rintro ⟨⟨h1, h2⟩, h3⟩
        exact .inl ⟨rfl, v, hcv, (G false v).2 ⟨hnul', fun v' hv' => by rw [heq] at hv'; exact Option.some.inj hv', h1, h2, fun _ => h3⟩⟩
      · rintro (⟨_, x, _, hg⟩ | ⟨h, _⟩)
        · obtain ⟨_, e, h1, h2, h3⟩ := (G false x).1 hg
          have := e v heq
          subst this
          exact ⟨⟨h1, h2⟩, h3 rfl⟩
        · cases h
    | none =>
      simp only
      have ge : ∀ loose x, Good A i loose x ↔ (∀ l, c.lo = some l → l ≤ x) ∧ (∀ h, c.hi = some h → x ≤ h) ∧ (loose = false → ex x = false) := fun loose x => by
        rw [G]; simp [hnul', heq]
      cases hlo : c.lo with
      | none =>
        cases hhi : c.hi with
        | none =>
          simp only
          rw [wit_two 0 1 (by decide) (.inl ⟨by omega, by omega, by omega⟩) (.inl ⟨by omega, by omega, by omega⟩) ((ge true 0).2 (by simp [hlo, hhi])) ((ge true 1).2 (by simp [hlo, hhi])), Bool.or_true]
        | some h =>
          simp only
          rw [wit_two h (h - 1) (by omega) (cand_hi hR hhi (by omega) (by omega)) (cand_hi hR hhi (by omega) (by omega)) ((ge true h).2 (by simp [hlo, hhi])) ((ge true (h - 1)).2 (by simp [hlo, hhi]; omega)), Bool.or_true]
      | some l =>
        cases hhi : c.hi with
        | none =>
          simp only
          rw [wit_two l (l + 1) (by omega) (cand_lo hR hlo (by omega) (by omega)) (cand_lo hR hlo (by omega) (by omega)) ((ge true l).2 (by simp [hlo, hhi])) ((ge true (l + 1)).2 (by simp [hlo, hhi]; omega)), Bool.or_true]
        | some h =>
          simp only
          by_cases he : cmp l h = 0
          · rw [if_pos he]
            have hlh := cmp_eq.1 he
            subst hlh
            rw [wit_two_not (v := l) (fun x hg => by have := (ge true x).1 hg; have h1 := this.1 l hlo; have h2 := this.2.1 l hhi; omega), Bool.or_false]
            rw [Bool.eq_iff_iff, Bool.not_eq_true', witF_iff]
            constructor
            · intro h3
              exact .inl ⟨rfl, l, cand_lo hR hlo (by omega) (by omega), (ge false l).2 (by simp [hlo, hhi, h3])⟩
            · rintro (⟨_, x, _, hg⟩ | ⟨h, _⟩)
              · have := (ge false x).1 hg
                have h1 := this.1 l hlo
                have h2 := this.2.1 l hhi
                have : x = l := by omega
                subst this
                exact ((ge false x).1 hg).2.2 rfl
              · cases h
          · rw [if_neg he]
            by_cases hlt : l < h
            · have hc := cmp_lt.2 hlt
              rw [wit_two l h (by omega) (cand_lo hR hlo (by omega) (by omega)) (cand_hi hR hhi (by omega) (by omega)) ((ge true l).2 (by simp [hlo, hhi]; omega)) ((ge true h).2 (by simp [hlo, hhi]; omega)), Bool.or_true]
              simp [hc]
            · have hc : ¬ cmp l h < 0 := fun h => hlt (cmp_lt.1 h)
              have hne : l ≠ h := fun e => he (cmp_eq.2 e)
              have no : ∀ loose x, ¬ Good A i loose x := fun loose x hg => by
                have := (ge loose x).1 hg
                have h1 := this.1 l hlo
                have h2 := this.2.1 h hhi
                omega
              rw [wit_none (no _), wit_none (no _)]
              simp [hc]

end Go.Proofs.Qxb6623474aDoor
