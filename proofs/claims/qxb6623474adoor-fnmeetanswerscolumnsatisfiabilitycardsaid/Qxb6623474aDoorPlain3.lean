/-
  One atom more.
-/
import Derived.Test.Qxb6623474aDoorPlain2
set_option linter.unusedVariables false
set_option linter.unusedSimpArgs false
namespace Go.Proofs.Qxb6623474aDoor

theorem ex_succ {P : Nat → Prop} {i : Nat} : (∃ j, j < i + 1 ∧ P j) ↔ (∃ j, j < i ∧ P j) ∨ P i := by
  constructor
  · rintro ⟨j, hj, h⟩
    by_cases e : j = i
    · subst e; exact .inr h
    · exact .inl ⟨j, by omega, h⟩
  · rintro (⟨j, hj, h⟩ | h)
    · exact ⟨j, by omega, h⟩
    · exact ⟨i, by omega, h⟩
theorem all_succ {P : Nat → Prop} {i : Nat} : (∀ j, j < i + 1 → P j) ↔ (∀ j, j < i → P j) ∧ P i := by
  constructor
  · intro h; exact ⟨fun j hj => h j (by omega), h i (by omega)⟩
  · rintro ⟨h, h'⟩ j hj
    by_cases e : j = i
    · subst e; exact h'
    · exact h j (by omega)

theorem rep_zero (A : Nat → Atom) (col : Int) : RepC A 0 col Col.zero (fun _ => false) := by
  constructor <;> simp [Col.zero]

/-- Another column's atom says nothing. -/
theorem rep_other {A : Nat → Atom} {i : Nat} {col : Int} {c : Col} {ex : Int → Bool} (hR : RepC A i col c ex) (hne : (A i).col ≠ col) : RepC A (i + 1) col c ex := by
  obtain ⟨h1, h2, h3, h4, h5, h6, h7, h8, h9, h10⟩ := hR
  constructor
  · rw [ex_succ]; simpa [hne] using h1
  · rw [ex_succ]; simpa [hne] using h2
  · rw [all_succ]; exact ⟨h3, fun h => absurd h hne⟩
  · intro v hv; rw [ex_succ, all_succ]; exact ⟨.inl (h4 v hv).1, (h4 v hv).2, fun h => absurd h hne⟩
  · intro hv; rw [all_succ]; exact ⟨h5 hv, fun h => absurd h hne⟩
  · intro v hv; rw [ex_succ, all_succ]; exact ⟨.inl (h6 v hv).1, (h6 v hv).2, fun h => absurd h hne⟩
  · intro hv; rw [all_succ]; exact ⟨h7 hv, fun h => absurd h hne⟩
  · intro v hv; rw [ex_succ, all_succ]; exact ⟨.inl (h8 v hv).1, (h8 v hv).2, fun h => absurd h hne⟩
  · intro hv; rw [all_succ]; exact ⟨h9 hv, fun h => absurd h hne⟩
  · intro v; rw [ex_succ]; simpa [hne] using h10 v

theorem tight_lo (n : Int) (m : Int) : tightF 1 n (some m) = max n m := by
  simp only [tightF, Int.mul_one]
  have := @cmp_gt n m
  split <;> omega
theorem tight_hi (n : Int) (m : Int) : tightF (-1) n (some m) = min n m := by
  simp only [tightF]
  have := @cmp_lt n m
  split <;> omega

/-- The parts of a column's knowledge that an atom does not touch. -/
theorem rep_step {A : Nat → Atom} {i : Nat} {c c' : Col} {ex : Int → Bool} (hR : RepC A i (A i).col c ex) (hd : (A i).dom) (hs : stepCol c (A i) = some c') :
    RepC A (i + 1) (A i).col c' (fun v => (isNe (A i) && decide (v = (A i).n)) || ex v) := by
  obtain ⟨h1, h2, h3, h4, h5, h6, h7, h8, h9, h10⟩ := hR
  generalize ha : A i = a at *
  obtain ⟨col, op, ty, nul, n, str⟩ := a
  simp only [Atom.dom] at hd
  simp only at h1 h2 h3 h4 h5 h6 h7 h8 h9 h10
  unfold stepCol at hs
  simp only at hs
  rcases hd with rfl | rfl | ⟨hop, _⟩
  · simp at hs
    subst hs
    constructor <;> simp only [ex_succ, all_succ, ha, isNe]
    · simp
    · simpa using h2
    · exact ⟨h3, by simp⟩
    · intro v hv; exact ⟨.inl (h4 v hv).1, (h4 v hv).2, by simp⟩
    · intro hv; exact ⟨h5 hv, by simp⟩
    · intro v hv; exact ⟨.inl (h6 v hv).1, (h6 v hv).2, by simp⟩
    · intro hv; exact ⟨h7 hv, by simp⟩
    · intro v hv; exact ⟨.inl (h8 v hv).1, (h8 v hv).2, by simp⟩
    · intro hv; exact ⟨h9 hv, by simp⟩
    · intro v; simpa using h10 v
  · simp at hs
    subst hs
    constructor <;> simp only [ex_succ, all_succ, ha, isNe]
    · simpa using h1
    · simp
    · exact ⟨h3, by simp⟩
    · intro v hv; exact ⟨.inl (h4 v hv).1, (h4 v hv).2, by simp⟩
    · intro hv; exact ⟨h5 hv, by simp⟩
    · intro v hv; exact ⟨.inl (h6 v hv).1, (h6 v hv).2, by simp⟩
    · intro hv; exact ⟨h7 hv, by simp⟩
    · intro v hv; exact ⟨.inl (h8 v hv).1, (h8 v hv).2, by simp⟩
    · intro hv; exact ⟨h9 hv, by simp⟩
    · intro v; simpa using h10 v
  · cases nul
    case true =>
      rcases hop with rfl | rfl | rfl | rfl | rfl | rfl <;> simp at hs
    rcases hop with rfl | rfl | rfl | rfl | rfl | rfl
    · cases he : c.eq with
      | none =>
        simp [he] at hs
        subst hs
        constructor <;> simp only [ex_succ, all_succ, ha, isNe]
        · simpa using h1
        · simp
        · exact ⟨h3, by simp⟩
        · intro v hv
          simp at hv
          subst hv
          exact ⟨.inr (by simp), fun j hj hc ho => absurd ho (h5 he j hj hc), fun _ _ => rfl⟩
        · intro hv; simp at hv
        · intro v hv; exact ⟨.inl (h6 v hv).1, (h6 v hv).2, by simp⟩
        · intro hv; exact ⟨h7 hv, by simp⟩
        · intro v hv; exact ⟨.inl (h8 v hv).1, (h8 v hv).2, by simp⟩
        · intro hv; exact ⟨h9 hv, by simp⟩
        · intro v; simpa using h10 v
      | some m =>
        simp [he, cmp_eq] at hs
        obtain ⟨hmn, rfl⟩ := hs
        constructor <;> simp only [ex_succ, all_succ, ha, isNe]
        · simpa using h1
        · simp
        · exact ⟨h3, by simp⟩
        · intro v hv
          have hvm : m = v := by simpa [he] using hv
          subst hvm
          exact ⟨.inl (h4 m he).1, (h4 m he).2, fun _ _ => hmn.symm⟩
        · intro hv; simp [he] at hv
        · intro v hv; exact ⟨.inl (h6 v hv).1, (h6 v hv).2, by simp⟩
        · intro hv; exact ⟨h7 hv, by simp⟩
        · intro v hv; exact ⟨.inl (h8 v hv).1, (h8 v hv).2, by simp⟩
        · intro hv; exact ⟨h9 hv, by simp⟩
        · intro v; simpa using h10 v
    · simp at hs
      subst hs
      constructor <;> simp only [ex_succ, all_succ, ha, isNe]
      · simpa using h1
      · simp
      · exact ⟨h3, by simp⟩
      · intro v hv; exact ⟨.inl (h4 v hv).1, (h4 v hv).2, by simp⟩
      · intro hv; exact ⟨h5 hv, by simp⟩
      · intro v hv; exact ⟨.inl (h6 v hv).1, (h6 v hv).2, by simp⟩
      · intro hv; exact ⟨h7 hv, by simp⟩
      · intro v hv; exact ⟨.inl (h8 v hv).1, (h8 v hv).2, by simp⟩
      · intro hv; exact ⟨h9 hv, by simp⟩
      · intro v
        have := h10 v
        simp only [true_and, Bool.not_false, decide_true, Bool.and_true, Bool.true_and, Bool.or_eq_true, decide_eq_true_eq]
        constructor
        · rintro (rfl | h)
          · exact .inr rfl
          · exact .inl (this.1 h)
        · rintro (h | h)
          · exact .inr (this.2 h)
          · exact .inl h.symm
    · simp at hs
      subst hs
      constructor <;> simp only [ex_succ, all_succ, ha, isNe]
      · simpa using h1
      · simp
      · exact ⟨h3, by simp⟩
      · intro v hv; exact ⟨.inl (h4 v hv).1, (h4 v hv).2, by simp⟩
      · intro hv; exact ⟨h5 hv, by simp⟩
      · intro v hv; exact ⟨.inl (h6 v hv).1, (h6 v hv).2, by simp⟩
      · intro hv; exact ⟨h7 hv, by simp⟩
      · intro v hv
        simp only [Option.some.injEq] at hv
        cases he : c.hi with
        | none =>
          rw [he] at hv
          have hv' : closedAt 4 n = v := hv
          exact ⟨.inr ⟨by trivial, by simp, hv'⟩, fun j hj hc ho => by
            have := h9 he j hj hc
            rcases ho with ho | ho
            · exact absurd ho this.1
            · exact absurd ho this.2, fun _ _ => by rw [← hv']; exact Int.le_refl _⟩
        | some m =>
          rw [he, tight_hi] at hv
          obtain ⟨hx, hall⟩ := h8 m he
          refine ⟨?_, fun j hj hc ho => Int.le_trans (by omega) (hall j hj hc ho), fun _ _ => by omega⟩
          by_cases hle : m ≤ closedAt 4 n
          · rw [show v = m by omega]; exact .inl hx
          · exact .inr ⟨by trivial, by simp, by omega⟩
      · intro hv; simp at hv
      · intro v; simpa using h10 v
    · simp at hs
      subst hs
      constructor <;> simp only [ex_succ, all_succ, ha, isNe]
      · simpa using h1
      · simp
      · exact ⟨h3, by simp⟩
      · intro v hv; exact ⟨.inl (h4 v hv).1, (h4 v hv).2, by simp⟩
      · intro hv; exact ⟨h5 hv, by simp⟩
      · intro v hv; exact ⟨.inl (h6 v hv).1, (h6 v hv).2, by simp⟩
      · intro hv; exact ⟨h7 hv, by simp⟩
      · intro v hv
        simp only [Option.some.injEq] at hv
        cases he : c.hi with
        | none =>
          rw [he] at hv
          have hv' : closedAt 5 n = v := hv
          exact ⟨.inr ⟨by trivial, by simp, hv'⟩, fun j hj hc ho => by
            have := h9 he j hj hc
            rcases ho with ho | ho
            · exact absurd ho this.1
            · exact absurd ho this.2, fun _ _ => by rw [← hv']; exact Int.le_refl _⟩
        | some m =>
          rw [he, tight_hi] at hv
          obtain ⟨hx, hall⟩ := h8 m he
          refine ⟨?_, fun j hj hc ho => Int.le_trans (by omega) (hall j hj hc ho), fun _ _ => by omega⟩
          by_cases hle : m ≤ closedAt 5 n
          · rw [show v = m by omega]; exact .inl hx
          · exact .inr ⟨by trivial, by simp, by omega⟩
      · intro hv; simp at hv
      · intro v; simpa using h10 v
    · simp at hs
      subst hs
      constructor <;> simp only [ex_succ, all_succ, ha, isNe]
      · simpa using h1
      · simp
      · exact ⟨h3, by simp⟩
      · intro v hv; exact ⟨.inl (h4 v hv).1, (h4 v hv).2, by simp⟩
      · intro hv; exact ⟨h5 hv, by simp⟩
      · intro v hv
        simp only [Option.some.injEq] at hv
        cases he : c.lo with
        | none =>
          rw [he] at hv
          have hv' : closedAt 6 n = v := hv
          exact ⟨.inr ⟨by trivial, by simp, hv'⟩, fun j hj hc ho => by
            have := h7 he j hj hc
            rcases ho with ho | ho
            · exact absurd ho this.1
            · exact absurd ho this.2, fun _ _ => by rw [← hv']; exact Int.le_refl _⟩
        | some m =>
          rw [he, tight_lo] at hv
          obtain ⟨hx, hall⟩ := h6 m he
          refine ⟨?_, fun j hj hc ho => Int.le_trans (hall j hj hc ho) (by omega), fun _ _ => by omega⟩
          by_cases hle : closedAt 6 n ≤ m
          · rw [show v = m by omega]; exact .inl hx
          · exact .inr ⟨by trivial, by simp, by omega⟩
      · intro hv; simp at hv
      · intro v hv; exact ⟨.inl (h8 v hv).1, (h8 v hv).2, by simp⟩
      · intro hv; exact ⟨h9 hv, by simp⟩
      · intro v; simpa using h10 v
    · simp at hs
      subst hs
      constructor <;> simp only [ex_succ, all_succ, ha, isNe]
      · simpa using h1
      · simp
      · exact ⟨h3, by simp⟩
      · intro v hv; exact ⟨.inl (h4 v hv).1, (h4 v hv).2, by simp⟩
      · intro hv; exact ⟨h5 hv, by simp⟩
      · intro v hv
        simp only [Option.some.injEq] at hv
        cases he : c.lo with
        | none =>
          rw [he] at hv
          have hv' : closedAt 7 n = v := hv
          exact ⟨.inr ⟨by trivial, by simp, hv'⟩, fun j hj hc ho => by
            have := h7 he j hj hc
            rcases ho with ho | ho
            · exact absurd ho this.1
            · exact absurd ho this.2, fun _ _ => by rw [← hv']; exact Int.le_refl _⟩
        | some m =>
          rw [he, tight_lo] at hv
          obtain ⟨hx, hall⟩ := h6 m he
          refine ⟨?_, fun j hj hc ho => Int.le_trans (hall j hj hc ho) (by omega), fun _ _ => by omega⟩
          by_cases hle : closedAt 7 n ≤ m
          · rw [show v = m by omega]; exact .inl hx
          · exact .inr ⟨by trivial, by simp, by omega⟩
      · intro hv; simp at hv
      · intro v hv; exact ⟨.inl (h8 v hv).1, (h8 v hv).2, by simp⟩
      · intro hv; exact ⟨h9 hv, by simp⟩
      · intro v; simpa using h10 v

end Go.Proofs.Qxb6623474aDoor
