/-
  The law's own functions: zzHolds (11), zzAtomInDomain (5).
-/
import Derived.Test.Qxb6623474aDoorBuilder
set_option linter.unusedVariables false
namespace Go.Proofs.Qxb6623474aDoor
open Go.RowKit

structure Atom where
  col : Int
  op : Int
  ty : Int
  nul : Bool
  n : Int
  str : ByteArray

abbrev Atom.val (a : Atom) : Value := .agg #[.int .i64 a.col, .int .u8 a.op, .int .u8 a.ty, .bool a.nul, .int .i64 a.n, .string a.str]

def holdsF (a : Atom) (null : Bool) (x : Int) : Bool :=
  if a.op = 11 then null else if a.op = 12 then !null else if null = true then false else if a.nul = true then false else
  if a.op = 2 then x == a.n else if a.op = 3 then x != a.n else if a.op = 4 then decide (x < a.n) else if a.op = 5 then decide (x ≤ a.n) else if a.op = 6 then decide (a.n < x) else decide (a.n ≤ x)

set_option maxHeartbeats 2000000 in
set_option maxRecDepth 100000 in
theorem holds_walk (a : Atom) (null : Bool) (x : Int) (w : World) :
    Calls Tryd.prog 11 #[a.val, .bool null, .int .i64 x] w fun e w' => e = .returned (.bool (holdsF a null x)) ∧ Below w.heap.size w w' := by
  obtain ⟨col, op, ty, nul, n, str⟩ := a
  have hb : ∀ (o : Obj), Below w.heap.size w (w.alloc o) := fun o => (Below.refl _ _).alloc (Nat.le_refl _) _
  unfold holdsF Atom.val
  by_cases h11 : op = 11
  · subst h11
    simp only [if_true]
    go_enter Tryd.func11, Tryd.ntmps11
    go_wp2
    go_ret
    exact ⟨rfl, hb _⟩
  by_cases h12 : op = 12
  · subst h12
    simp only [if_true, Int.reduceEq, if_false]
    go_enter Tryd.func11, Tryd.ntmps11
    go_wp2
    go_ret
    exact ⟨rfl, hb _⟩
  cases null
  case true =>
    simp only [h11, h12, if_true, if_false]
    go_enter Tryd.func11, Tryd.ntmps11
    go_wp2
    go_ret
    exact ⟨rfl, hb _⟩
  cases nul
  case true =>
    simp only [h11, h12, if_true, if_false]
    go_enter Tryd.func11, Tryd.ntmps11
    go_wp2
    go_ret
    exact ⟨rfl, hb _⟩
  by_cases h2 : op = 2
  · subst h2
    simp only [if_true, Int.reduceEq, if_false, Bool.false_eq_true]
    go_enter Tryd.func11, Tryd.ntmps11
    go_wp2
    go_ret
    exact ⟨rfl, hb _⟩
  by_cases h3 : op = 3
  · subst h3
    simp only [if_true, Int.reduceEq, if_false, Bool.false_eq_true]
    go_enter Tryd.func11, Tryd.ntmps11
    go_wp2
    go_ret
    exact ⟨rfl, hb _⟩
  by_cases h4 : op = 4
  · subst h4
    simp only [if_true, Int.reduceEq, if_false, Bool.false_eq_true]
    go_enter Tryd.func11, Tryd.ntmps11
    go_wp2
    go_ret
    exact ⟨rfl, hb _⟩
  by_cases h5 : op = 5
  · subst h5
    simp only [if_true, Int.reduceEq, if_false, Bool.false_eq_true]
    go_enter Tryd.func11, Tryd.ntmps11
    go_wp2
    go_ret
    exact ⟨rfl, hb _⟩
  by_cases h6 : op = 6
  · subst h6
    simp only [if_true, Int.reduceEq, if_false, Bool.false_eq_true]
    go_enter Tryd.func11, Tryd.ntmps11
    go_wp2
    go_ret
    exact ⟨rfl, hb _⟩
  · simp only [h11, h12, h2, h3, h4, h5, h6, if_false, Bool.false_eq_true]
    go_enter Tryd.func11, Tryd.ntmps11
    go_wp2
    go_ret
    exact ⟨rfl, hb _⟩

/-- In the law's domain. -/
def Atom.dom (a : Atom) : Prop :=
  a.op = 11 ∨ a.op = 12 ∨ ((a.op = 2 ∨ a.op = 3 ∨ a.op = 4 ∨ a.op = 5 ∨ a.op = 6 ∨ a.op = 7) ∧ (a.nul = true ∨ ((a.ty = 2 ∨ a.ty = 3) ∧ -9223372036854775806 ≤ a.n ∧ a.n ≤ 9223372036854775805)))

end Go.Proofs.Qxb6623474aDoor
