/-
  The search's two maps: by what they hold at a key.
-/
import Derived.Test.Qxb6623474aDoorKey
import Derived.Maps.Own
import Derived.Maps.Views
import Derived.Maps.OwnSet
import Derived.DeepKeys5
set_option linter.unusedVariables false
namespace Go.Proofs.Qxb6623474aDoor
open Go.RowKit Go.Maps

theorem laidOut : laidOutB Tryd.prog = true := by kernel_rfl
theorem keyed3 : Keyed Tryd.prog 3 := int_keyed Tryd.underlying3
theorem keyed50 : Keyed Tryd.prog 50 := Keyed.of_law (deep_law_gate laidOut (of_decide_eq_true (by kernel_rfl)) (of_decide_eq_true (by kernel_rfl)) (by kernel_rfl) (by kernel_rfl))

/-- Every value as a token of itself. -/
def tokR (v : Value) : Option (DataW Value × List MemPlace) := some (.held v, [])

abbrev zeroCol : Value := .agg #[.pointer none, .pointer none, .pointer none, .bool false, .bool false]
theorem zero48 (w : World) : (zeroValue 48).run Tryd.prog w = .ok zeroCol w := by kernel_rfl

def I64 (n : Int) : Prop := (Lit.int .i64 n).wf = true

/-- The map of columns holds F's values. -/
def ColsAt (w : World) (cm k : Nat) (F : Int → Value) : Prop :=
  ∃ D : DataW Value, w.ownsMap Tryd.prog 3 tokR cm k D ∧ ∀ col, I64 col → D.atKey (.int .i64 col) (.held zeroCol) = .held (F col)

theorem ColsAt.kept {w w' : World} {cm k : Nat} {F : Int → Value} {row : Option Nat} (h : ColsAt w cm k F) (hg : w.grownBy w' row) (hne : some cm ≠ row) : ColsAt w' cm k F := by
  obtain ⟨D, hD, hF⟩ := h
  exact ⟨D, hD.kept hg hne, hF⟩
theorem ColsAt.block {w w' : World} {cm k : Nat} {F : Int → Value} (h : ColsAt w cm k F) (hb : w'.heap[cm]? = w.heap[cm]?) : ColsAt w' cm k F := by
  obtain ⟨D, ⟨es, clock, hh, r⟩, hF⟩ := h
  exact ⟨D, ⟨es, clock, hb.trans hh, r⟩, hF⟩
theorem ColsAt.lookup {w : World} {cm k : Nat} {F : Int → Value} (h : ColsAt w cm k F) {col : Int} (hc : I64 col) : (Instr.lookup 32 (.map (some cm)) (.int .i64 col) false).run Tryd.prog w = .ok (F col) w := by
  obtain ⟨D, hD, hF⟩ := h
  obtain ⟨v, ps, hrun, hv⟩ := hD.lookup keyed3 Tryd.underlying32 (zero48 w) (zd := .held zeroCol) rfl (keyOf_int_mk Tryd.underlying3 hc)
  rw [hF col hc] at hv
  simp only [tokR, Option.some.injEq, Prod.mk.injEq, DataW.held.injEq] at hv
  rw [hrun, hv.1]
theorem ColsAt.update {w : World} {cm k : Nat} {F : Int → Value} (h : ColsAt w cm k F) {col : Int} (hc : I64 col) (hk : k < 1000000) (v : Value) :
    ∃ w', (Instr.mapUpdate 32 (.map (some cm)) (.int .i64 col) v).run Tryd.prog w = .ok () w' ∧ ColsAt w' cm (k + 1) (fun c => if c = col then v else F c) ∧ w.grownBy w' (some cm) := by
  obtain ⟨D, hD, hF⟩ := h
  obtain ⟨w', hrun, hD', hg⟩ := hD.update keyed3 Tryd.underlying32 (by unfold maxLen; omega) (keyOf_int_mk Tryd.underlying3 hc) (val := v) (d := .held v) (ps := []) rfl
  refine ⟨w', hrun, ⟨_, hD', fun c hc' => ?_⟩, hg⟩
  by_cases e : c = col
  · subst e
    rw [atKey_put_same hD.isMap (keyed3.key (keyOf_int_mk Tryd.underlying3 hc))]
    simp
  · rw [atKey_put_other (fun h => e (by cases h; rfl)), hF c hc']
    simp [e]

/-! ### The numeral is told by its number -/
def decVal (l : List UInt8) : Nat := l.foldl (fun v c => v * 10 + (c.toNat - 48)) 0
theorem decVal_snoc (l : List UInt8) (c : UInt8) : decVal (l ++ [c]) = decVal l * 10 + (c.toNat - 48) := by simp [decVal]
theorem decVal_dec (u : Nat) : decVal (Lib.decDigits u) = u := by
  induction u using Nat.strongRecOn with
  | _ u ih =>
    by_cases h : u < 10
    · rw [Lib.decDigits, dif_pos h]
      simp [decVal]
      omega
    · rw [Lib.decDigits, dif_neg h, decVal_snoc, ih (u / 10) (by omega)]
      simp
      omega

end Go.Proofs.Qxb6623474aDoor
