/-
  An argument of type []ZAtom, opened; what the listed variables give.
-/
import Derived.Test.Qxb6623474aDoorLaw
import Derived.Test.Qxb6623474aDoorRows
import Derived.ProofKit
import Derived.OpenShut
import Derived.ChangeOld
import Derived.Deep.Slices
import Derived.Lib.LaidTab
import Derived.Stop.LaidErr
import Derived.LaidMore
import Derived.MakeChecks
set_option linter.unusedVariables false
namespace Go.Proofs.Qxb6623474aDoor
open Go.ChangeShapes Go.WideShapes Go.ChangeAt Go.RowKit Go.Deep

instance : Inhabited Atom := ⟨⟨0, 0, 0, false, 0, .empty⟩⟩

theorem fields25 : ∃ f0 f1 f2 f3 f4 f5 : Field, Tryd.prog.underlying 25 = some (.struct #[f0, f1, f2, f3, f4, f5]) ∧ f0.offset = 0 ∧ f1.offset = 1 ∧ f2.offset = 2 ∧ f3.offset = 3 ∧ f4.offset = 4 ∧ f5.offset = 5 ∧
    f0.type = 3 ∧ f1.type = 5 ∧ f2.type = 5 ∧ f3.type = 4 ∧ f4.type = 2 ∧ f5.type = 9 := ⟨_, _, _, _, _, _, Tryd.underlying25, rfl, rfl, rfl, rfl, rfl, rfl, rfl, rfl, rfl, rfl, rfl, rfl⟩
theorem cells25 : Tryd.prog.cellsOf 25 = 6 := by kernel_rfl
theorem cellsU8 : Tryd.prog.cellsOf 5 = 1 := by kernel_rfl
theorem cellsB : Tryd.prog.cellsOf 4 = 1 := by kernel_rfl
theorem cells2' : Tryd.prog.cellsOf 2 = 1 := by kernel_rfl

theorem plain_of_cell {w : World} {x : Addr} {v : Value} (h : w.cell? x = some v) : x = ⟨x.block, x.off, none⟩ := by
  obtain ⟨b, o, sp⟩ := x
  have := World.cell?_spot h
  simp at this
  rw [this]

theorem trod_bool' {H : Type} {enc : TypeId × Value → H} {P : Program} {w : World} {base : Nat} {spare : Nat → Bool} {held : Bool} {fuel : Nat} {t : TypeId} {cs : List Value} {x : DataW H × List MemPlace}
    (ht : P.underlying t = some .bool) (h : DataW.trod enc P w base spare held fuel t cs = some x) : ∃ b, cs = [.bool b] := by
  cases fuel with
  | zero => simp [DataW.trod] at h
  | succ n =>
    unfold DataW.trod at h
    rw [ht] at h
    split at h <;> simp_all

set_option maxRecDepth 100000 in
/-- A list of atoms that came in. -/
theorem open_atoms {H : Type} {enc : TypeId × Value → H} {W : World} {v : Value} {d : DataW H} {ps : List MemPlace} (hv : ∃ a len cap, v = .slice a len cap)
    (h : DataW.Trod enc Tryd.prog W 0 (fun _ => true) true 22 v d ps) :
    ∃ (a : Option Addr) (n cap : Nat) (A : Nat → Atom), v = .slice a n cap ∧ AtomsAt W a n A ∧ n ≤ 9223372036854775807 ∧ (∀ i, i < n → (A i).str.size ≤ 9223372036854775807) ∧ ∀ i, i < n → I64 (A i).col := by
  obtain ⟨a, len, cap, rfl⟩ := hv
  obtain ⟨fuel, hf⟩ := h
  obtain ⟨f0, f1, f2, f3, f4, f5, hu, o0, o1, o2, o3, o4, o5, t0, t1, t2, t3, t4, t5⟩ := fields25
  rcases open_slice Tryd.underlying22 hf with ⟨hcs, _⟩ | ⟨x, l, c, m, n, D, Pl, hcs, _, hl, hm, hmm, _, hx⟩
  · simp [Value.cells] at hcs
    obtain ⟨rfl, rfl, rfl⟩ := hcs
    exact ⟨none, 0, 0, fun _ => default, rfl, .inl rfl, by omega, fun i hi => absurd hi (Nat.not_lt_zero _), fun i hi => absurd hi (Nat.not_lt_zero _)⟩
  · simp [Value.cells] at hcs
    obtain ⟨rfl, rfl, rfl⟩ := hcs
    have hlm : len ≤ m := by rw [hmm]; split <;> omega
    have each : ∀ i, i < len → ∃ q : Atom, (W.cell? (x.add (i * 6)) = some (.int .i64 q.col) ∧ W.cell? (x.add (i * 6 + 1)) = some (.int .u8 q.op) ∧ W.cell? (x.add (i * 6 + 2)) = some (.int .u8 q.ty) ∧
        W.cell? (x.add (i * 6 + 3)) = some (.bool q.nul) ∧ W.cell? (x.add (i * 6 + 4)) = some (.int .i64 q.n) ∧ W.cell? (x.add (i * 6 + 5)) = some (.string q.str)) ∧ q.str.size ≤ maxLen ∧ I64 q.col := by
      intro i hi
      obtain ⟨cs', h1, h2⟩ := hx i (by omega)
      rw [cells25] at h1
      obtain ⟨_, hlen, hcell⟩ := World.cells?_some h1
      obtain ⟨xs, k, hk, hxy, _, hxl, hfld⟩ := DataW.trod_struct hu h2
      match xs, hxl, cs', hlen with
      | [y0, y1, y2, y3, y4, y5], _, [v0, v1, v2, v3, v4, v5], _ =>
        have g0 := hfld 0 f0 rfl
        have g1 := hfld 1 f1 rfl
        have g2 := hfld 2 f2 rfl
        have g3 := hfld 3 f3 rfl
        have g4 := hfld 4 f4 rfl
        have g5 := hfld 5 f5 rfl
        rw [o0, t0, cells3] at g0
        rw [o1, t1, cellsU8] at g1
        rw [o2, t2, cellsU8] at g2
        rw [o3, t3, cellsB] at g3
        rw [o4, t4, cells2'] at g4
        rw [o5, t5, cells9] at g5
        obtain ⟨z0, q0, _, w0⟩ := DataW.trod_int Tryd.underlying3 (show DataW.trod enc Tryd.prog W 0 _ true k 3 [v0] = some y0 from g0)
        obtain ⟨z1, q1, _, _⟩ := DataW.trod_int Tryd.underlying5 (show DataW.trod enc Tryd.prog W 0 _ true k 5 [v1] = some y1 from g1)
        obtain ⟨z2, q2, _, _⟩ := DataW.trod_int Tryd.underlying5 (show DataW.trod enc Tryd.prog W 0 _ true k 5 [v2] = some y2 from g2)
        obtain ⟨z3, q3⟩ := trod_bool' Tryd.underlying4 (show DataW.trod enc Tryd.prog W 0 _ true k 4 [v3] = some y3 from g3)
        obtain ⟨z4, q4, _, _⟩ := DataW.trod_int Tryd.underlying2 (show DataW.trod enc Tryd.prog W 0 _ true k 2 [v4] = some y4 from g4)
        obtain ⟨z5, q5, _, w5⟩ := DataW.trod_string Tryd.underlying9 (show DataW.trod enc Tryd.prog W 0 _ true k 9 [v5] = some y5 from g5)
        simp only [List.cons.injEq, and_true] at q0 q1 q2 q3 q4 q5
        have e0 := hcell 0 (by omega)
        have e1 := hcell 1 (by omega)
        have e2 := hcell 2 (by omega)
        have e3 := hcell 3 (by omega)
        have e4 := hcell 4 (by omega)
        have e5 := hcell 5 (by omega)
        rw [add_add] at e0 e1 e2 e3 e4 e5
        subst q0 q1 q2 q3 q4 q5
        exact ⟨⟨z0, z1, z2, z3, z4, z5⟩, ⟨by simpa using e0, by simpa using e1, by simpa using e2, by simpa using e3, by simpa using e4, by simpa using e5⟩, w5, w0⟩
    obtain ⟨A, hA⟩ := choose_lt each
    refine ⟨some x, len, cap, A, rfl, ?_, by unfold maxLen at hm; omega, fun i hi => by have := (hA i hi).2.1; unfold maxLen at this; omega, fun i hi => (hA i hi).2.2⟩
    by_cases h0 : len = 0
    · exact .inl h0
    · have c0 := (hA 0 (by omega)).1.1
      rw [show x.add (0 * 6) = x from rfl] at c0
      have e := plain_of_cell c0
      refine .inr ⟨x.block, x.off, by rw [← e], World.block_lt_of_cell? W _ c0, fun i hi => ?_⟩
      have := (hA i hi).1
      rw [e] at this
      simpa only [add_plain, Nat.add_assoc] using this


end Go.Proofs.Qxb6623474aDoor
