/-
  The map of exclusions: how it is read and written.
-/
import Derived.Test.Qxb6623474aDoorEx
set_option linter.unusedVariables false
namespace Go.Proofs.Qxb6623474aDoor
open Go.RowKit Go.Maps

theorem zero4 (w : World) : (zeroValue 4).run Tryd.prog w = .ok (.bool false) w := by kernel_rfl

theorem I64.mk {n : Int} (h0 : -9223372036854775808 ≤ n) (h1 : n ≤ 9223372036854775807) : I64 n := by
  have a : IntKind.i64.min = -9223372036854775808 := by decide
  have b : IntKind.i64.max = 9223372036854775807 := by decide
  simp [I64, Lit.wf, a, b]; exact ⟨h0, h1⟩
theorem I64.bounds {n : Int} (h : I64 n) : -9223372036854775808 ≤ n ∧ n ≤ 9223372036854775807 := by
  have a : IntKind.i64.min = -9223372036854775808 := by decide
  have b : IntKind.i64.max = 9223372036854775807 := by decide
  simp [I64, Lit.wf, a, b] at h; exact h

theorem exKey_inj {c n c' n' : Int} (h1 : I64 c) (h2 : I64 n) (h3 : I64 c') (h4 : I64 n') (e : exKey c n = exKey c' n') : c = c' ∧ n = n' := by
  have := keyed50.inj (keyOf50 h1 h2.bounds.1 h2.bounds.2) (by rw [e]; exact keyOf50 h3 h4.bounds.1 h4.bounds.2)
  simp at this
  exact ⟨this.1, keyS_inj this.2⟩

/-- The map of exclusions holds F's answers. -/
def ExAt (w : World) (em k : Nat) (F : Int → Int → Bool) : Prop :=
  ∃ D : DataW Value, w.ownsMap Tryd.prog 50 tokR em k D ∧ ∀ col n, I64 col → I64 n → D.atKey (exKey col n) (.held (.bool false)) = .held (.bool (F col n))

theorem ExAt.kept {w w' : World} {em k : Nat} {F : Int → Int → Bool} {row : Option Nat} (h : ExAt w em k F) (hg : w.grownBy w' row) (hne : some em ≠ row) : ExAt w' em k F := by
  obtain ⟨D, hD, hF⟩ := h
  exact ⟨D, hD.kept hg hne, hF⟩
theorem ExAt.block {w w' : World} {em k : Nat} {F : Int → Int → Bool} (h : ExAt w em k F) (hb : w'.heap[em]? = w.heap[em]?) : ExAt w' em k F := by
  obtain ⟨D, ⟨es, clock, hh, r⟩, hF⟩ := h
  exact ⟨D, ⟨es, clock, hb.trans hh, r⟩, hF⟩
theorem ExAt.mono {w : World} {em k k' : Nat} {F : Int → Int → Bool} (h : ExAt w em k F) (hk : k ≤ k') : ExAt w em k' F := by
  obtain ⟨D, hD, hF⟩ := h
  exact ⟨D, hD.mono hk, hF⟩
theorem ExAt.lookup {w : World} {em k : Nat} {F : Int → Int → Bool} (h : ExAt w em k F) {col n : Int} (hc : I64 col) (hn : I64 n) : (Instr.lookup 33 (.map (some em)) (exV col n) false).run Tryd.prog w = .ok (.bool (F col n)) w := by
  obtain ⟨D, hD, hF⟩ := h
  obtain ⟨v, ps, hrun, hv⟩ := hD.lookup keyed50 Tryd.underlying33 (zero4 w) (zd := .held (.bool false)) rfl (keyOf50 hc hn.bounds.1 hn.bounds.2)
  rw [hF col n hc hn] at hv
  simp only [tokR, Option.some.injEq, Prod.mk.injEq, DataW.held.injEq] at hv
  rw [hrun, hv.1]
theorem ExAt.update {w : World} {em k : Nat} {F : Int → Int → Bool} (h : ExAt w em k F) {col n : Int} (hc : I64 col) (hn : I64 n) (hk : k < 1000000) :
    ∃ w', (Instr.mapUpdate 33 (.map (some em)) (exV col n) (.bool true)).run Tryd.prog w = .ok () w' ∧ ExAt w' em (k + 1) (fun c m => if c = col ∧ m = n then true else F c m) ∧ w.grownBy w' (some em) := by
  obtain ⟨D, hD, hF⟩ := h
  obtain ⟨w', hrun, hD', hg⟩ := hD.update keyed50 Tryd.underlying33 (by unfold maxLen; omega) (keyOf50 hc hn.bounds.1 hn.bounds.2) (val := .bool true) (d := .held (.bool true)) (ps := []) rfl
  refine ⟨w', hrun, ⟨_, hD', fun c m hc' hm => ?_⟩, hg⟩
  by_cases e : c = col ∧ m = n
  · obtain ⟨rfl, rfl⟩ := e
    rw [atKey_put_same hD.isMap (keyed50.key (keyOf50 hc hn.bounds.1 hn.bounds.2))]
    simp
  · rw [atKey_put_other (fun h => e (exKey_inj hc' hm hc hn h)), hF c m hc' hm]
    simp [e]

theorem ColsAt.isMap {w : World} {cm k : Nat} {F : Int → Value} (h : ColsAt w cm k F) : ∃ es clock, w.heap[cm]? = some (.map es clock) := by
  obtain ⟨D, ⟨es, clock, hh, r⟩, hF⟩ := h
  exact ⟨es, clock, hh⟩
theorem ExAt.isMap {w : World} {cm k : Nat} {F : Int → Int → Bool} (h : ExAt w cm k F) : ∃ es clock, w.heap[cm]? = some (.map es clock) := by
  obtain ⟨D, ⟨es, clock, hh, r⟩, hF⟩ := h
  exact ⟨es, clock, hh⟩
theorem ColsAt.made (w : World) (F : Int → Value) (hF : ∀ c, F c = zeroCol) : ColsAt (w.alloc (.map #[] 0)) w.heap.size 0 F :=
  ⟨_, World.ownsMap_made w Tryd.prog 3 tokR, fun c _ => by rw [hF c]; rfl⟩
theorem ExAt.made (w : World) : ExAt (w.alloc (.map #[] 0)) w.heap.size 0 (fun _ _ => false) :=
  ⟨_, World.ownsMap_made w Tryd.prog 50 tokR, fun c n _ _ => rfl⟩

end Go.Proofs.Qxb6623474aDoor
