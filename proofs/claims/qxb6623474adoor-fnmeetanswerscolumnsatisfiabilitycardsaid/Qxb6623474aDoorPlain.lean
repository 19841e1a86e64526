/-
  The plain law: what a search knows of a column, and when some value meets every atom.
-/
import Derived.Test.Qxb6623474aDoorTight
import Derived.Test.Qxb6623474aDoorWit
set_option linter.unusedVariables false
namespace Go.Proofs.Qxb6623474aDoor

structure Col where
  lo : Option Int
  hi : Option Int
  eq : Option Int
  nul : Bool
  nn : Bool
def Col.zero : Col := ⟨none, none, none, false, false⟩
structure Sea where
  cols : Int → Col
  ex : Int → Int → Bool

/-- The column as the atom leaves it; none: the atom is refused at once. -/
def stepCol (c : Col) (a : Atom) : Option Col :=
  if a.op = 11 then some { c with nul := true }
  else if a.op = 12 then some { c with nn := true }
  else if a.nul = true then none
  else if a.op = 2 then
    match c.eq with
    | none => some { c with nn := true, eq := some a.n }
    | some m => if cmp m a.n = 0 then some { c with nn := true } else none
  else if a.op = 3 then some { c with nn := true }
  else if a.op = 4 ∨ a.op = 5 then some { c with nn := true, hi := some (tightF (-1) (closedAt a.op a.n) c.hi) }
  else some { c with nn := true, lo := some (tightF 1 (closedAt a.op a.n) c.lo) }

def isNe (a : Atom) : Bool := decide (a.op = 3) && !a.nul
def stepEx (ex : Int → Int → Bool) (a : Atom) : Int → Int → Bool := fun c v => (isNe a && decide (c = a.col) && decide (v = a.n)) || ex c v

def answer (c : Col) (ex : Int → Bool) : Bool :=
  if c.nul = true then !c.nn else
  match c.eq with
  | some v => inB 1 v c.lo && inB (-1) v c.hi && !ex v
  | none =>
    match c.lo, c.hi with
    | some l, some h => if cmp l h = 0 then !ex l else decide (cmp l h < 0)
    | _, _ => true

def meetB (st : Sea) (a : Atom) : Bool :=
  match stepCol (st.cols a.col) a with
  | none => false
  | some c => answer c (stepEx st.ex a a.col)
def next (st : Sea) (a : Atom) : Sea := ⟨fun k => if k = a.col then (stepCol (st.cols a.col) a).getD Col.zero else st.cols k, stepEx st.ex a⟩

theorem cmp_lt {a b : Int} : cmp a b < 0 ↔ a < b := by unfold cmp; split <;> (try split) <;> omega
theorem cmp_eq {a b : Int} : cmp a b = 0 ↔ a = b := by unfold cmp; split <;> (try split) <;> omega
theorem cmp_gt {a b : Int} : 0 < cmp a b ↔ b < a := by unfold cmp; split <;> (try split) <;> omega
theorem inB_lo {v : Int} {o : Option Int} : inB 1 v o = true ↔ ∀ l, o = some l → l ≤ v := by
  cases o with
  | none => simp [inB]
  | some l =>
    simp only [inB, decide_eq_true_eq, Option.some.injEq, Int.mul_one]
    constructor
    · rintro h _ rfl; have := @cmp_lt v l; omega
    · intro h; have := h l rfl; have := @cmp_lt v l; omega
theorem inB_hi {v : Int} {o : Option Int} : inB (-1) v o = true ↔ ∀ h, o = some h → v ≤ h := by
  cases o with
  | none => simp [inB]
  | some l =>
    simp only [inB, decide_eq_true_eq, Option.some.injEq]
    constructor
    · rintro h _ rfl; have := @cmp_gt v l; omega
    · intro h; have := h l rfl; have := @cmp_gt v l; omega

/-- What the first i atoms (each accepted) say of a column. -/
structure RepC (A : Nat → Atom) (i : Nat) (col : Int) (c : Col) (ex : Int → Bool) : Prop where
  nul : c.nul = true ↔ ∃ j, j < i ∧ (A j).col = col ∧ (A j).op = 11
  nn : c.nn = true ↔ ∃ j, j < i ∧ (A j).col = col ∧ (A j).op ≠ 11
  ok : ∀ j, j < i → (A j).col = col → (A j).op ≠ 11 → (A j).op ≠ 12 → (A j).nul = false
  eq1 : ∀ v, c.eq = some v → (∃ j, j < i ∧ (A j).col = col ∧ (A j).op = 2 ∧ (A j).n = v) ∧ ∀ j, j < i → (A j).col = col → (A j).op = 2 → (A j).n = v
  eq0 : c.eq = none → ∀ j, j < i → (A j).col = col → (A j).op ≠ 2
  lo1 : ∀ l, c.lo = some l → (∃ j, j < i ∧ (A j).col = col ∧ ((A j).op = 6 ∨ (A j).op = 7) ∧ closedAt (A j).op (A j).n = l) ∧ ∀ j, j < i → (A j).col = col → ((A j).op = 6 ∨ (A j).op = 7) → closedAt (A j).op (A j).n ≤ l
  lo0 : c.lo = none → ∀ j, j < i → (A j).col = col → (A j).op ≠ 6 ∧ (A j).op ≠ 7
  hi1 : ∀ h, c.hi = some h → (∃ j, j < i ∧ (A j).col = col ∧ ((A j).op = 4 ∨ (A j).op = 5) ∧ closedAt (A j).op (A j).n = h) ∧ ∀ j, j < i → (A j).col = col → ((A j).op = 4 ∨ (A j).op = 5) → h ≤ closedAt (A j).op (A j).n
  hi0 : c.hi = none → ∀ j, j < i → (A j).col = col → (A j).op ≠ 4 ∧ (A j).op ≠ 5
  ex : ∀ v, ex v = true ↔ ∃ j, j < i ∧ (A j).col = col ∧ (A j).op = 3 ∧ (A j).n = v

end Go.Proofs.Qxb6623474aDoor
