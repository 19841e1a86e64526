/-
  An argument of type []Proto, opened: how it lies in memory.
-/
import Derived.Test.Qxb6621669aRows
import Derived.Test.Qxb6621669aMem
import Derived.WalkKit
import Derived.ProofKit
import Derived.OpenShut
import Derived.ChangeOld
import Derived.Deep.SlicePairs
set_option linter.unusedVariables false
namespace Go.Proofs.Qxb6621669a
open Go.ChangeShapes Go.WideShapes Go.ChangeAt Go.RowKit Go.Deep

theorem own : ownKnob Try.prog.godebug = none := by kernel_rfl
theorem laidOut : laidOutB Try.prog = true := by kernel_rfl

theorem fields39 : ∃ f0 f1 : Field, Try.prog.underlying 39 = some (.struct #[f0, f1]) ∧ f0.offset = 0 ∧ f1.offset = 1 ∧ f0.type = 9 ∧ f1.type = 32 := ⟨_, _, Try.underlying39, rfl, rfl, rfl, rfl⟩
theorem cells39 : Try.prog.cellsOf 39 = 2 := by kernel_rfl
theorem cells9 : Try.prog.cellsOf 9 = 1 := by kernel_rfl
theorem cells32 : Try.prog.cellsOf 32 = 1 := by kernel_rfl
theorem cells5 : Try.prog.cellsOf 5 = 1 := by kernel_rfl

theorem block_of_cell {w : World} {x : Addr} {v : Value} (h : w.cell? x = some v) : x.block < w.heap.size := World.block_lt_of_cell? w x h

theorem plain_of_cell {w : World} {x : Addr} {v : Value} (h : w.cell? x = some v) : x = ⟨x.block, x.off, none⟩ := by
  obtain ⟨b, o, sp⟩ := x
  have := World.cell?_spot h
  simp at this
  rw [this]

/-- A slice of bytes that came in. -/
theorem open_bytes {H : Type} {enc : TypeId × Value → H} {W : World} {fuel : Nat} {v : Value} {x : DataW H × List MemPlace} (h : DataW.trod enc Try.prog W 0 (fun _ => true) true fuel 32 [v] = some x) :
    ∃ (a : Option Addr) (len cap : Nat) (z : Nat → Int), v = .slice a len cap ∧ BytesAt 0 W a len z ∧ len ≤ 9223372036854775807 ∧ ∀ j, 0 ≤ z j ∧ z j ≤ 255 := by
  rcases open_ints Try.underlying32 Try.underlying5 cells5 h with ⟨hcs, _⟩ | ⟨a, len, cap, zs, hcs, _, hl, hm, hz, _, hcell, hwz⟩
  · simp at hcs
    exact ⟨none, 0, 0, fun _ => 0, hcs, .inl rfl, by omega, fun _ => ⟨Int.le_refl _, by show (0 : Int) ≤ 255; omega⟩⟩
  · simp at hcs
    have hz' : zs.length = cap := by simpa using hz
    refine ⟨some a, len, cap, fun j => zs.getD j 0, hcs, ?_, by unfold maxLen at hm; omega, fun j => ?_⟩
    · by_cases h0 : len = 0
      · exact .inl h0
      · have c0 := hcell 0 (by omega)
        rw [show a.add 0 = a from rfl] at c0
        have e := plain_of_cell c0
        refine .inr ⟨a.block, a.off, by rw [← e], Nat.zero_le _, block_of_cell c0, fun j hj => ?_⟩
        have := hcell j (by omega)
        rw [e, add_plain] at this
        exact this
    · by_cases hj : j < zs.length
      · have := hwz (zs.getD j 0) (by simp [List.getD, hj])
        exact bounds_u8 this
      · simp [List.getD, hj]

/-- A list of protocols that came in. -/
theorem open_protos {H : Type} {enc : TypeId × Value → H} {W : World} {v : Value} {d : DataW H} {ps : List MemPlace} (hv : ∃ a len cap, v = .slice a len cap)
    (h : DataW.Trod enc Try.prog W 0 (fun _ => true) true 25 v d ps) :
    ∃ (a : Option Addr) (cap : Nat) (p : PV), v = .slice a p.len cap ∧ ListAt 0 W a p ∧ p.fits ∧ p.ok ∧ (a = none → p.len = 0) ∧ p.len ≤ cap := by
  obtain ⟨a, len, cap, rfl⟩ := hv
  obtain ⟨fuel, hf⟩ := h
  obtain ⟨f0, f1, hu, o0, o1, t0, t1⟩ := fields39
  rcases open_slice_pairs Try.underlying25 hu cells39 o0 o1 (by rw [t0]; exact cells9) (by rw [t1]; exact cells32) hf with ⟨hcs, _⟩ | ⟨x, l, c, m, n, V0, V1, D0, D1, P0, P1, hcs, _, hl, hm, hmm, _, hx⟩
  · simp [Value.cells] at hcs
    obtain ⟨rfl, rfl, rfl⟩ := hcs
    exact ⟨none, 0, ⟨0, fun _ => .empty, fun _ => 0, fun _ _ => 0⟩, rfl, .inl rfl, ⟨by show 0 ≤ _; omega, fun i hi => absurd hi (Nat.not_lt_zero _)⟩, fun _ _ => ⟨by show (0 : Int) ≤ 0; omega, by show (0 : Int) ≤ 255; omega⟩, fun _ => rfl, Nat.le_refl _⟩
  · simp [Value.cells] at hcs
    obtain ⟨rfl, rfl, rfl⟩ := hcs
    have hmc : m = cap := by simpa using hmm
    rw [t0, t1] at hx
    have each : ∀ i, i < len → ∃ q : ByteArray × Option Addr × Nat × Nat × (Nat → Int), V0 i = .string q.1 ∧ q.1.size ≤ maxLen ∧ V1 i = .slice q.2.1 q.2.2.1 q.2.2.2.1 ∧ BytesAt 0 W q.2.1 q.2.2.1 q.2.2.2.2 ∧ q.2.2.1 ≤ 9223372036854775807 ∧ ∀ j, 0 ≤ q.2.2.2.2 j ∧ q.2.2.2.2 j ≤ 255 := by
      intro i hi
      obtain ⟨_, _, h3, h4⟩ := hx i (by omega)
      obtain ⟨s, e1, _, e3⟩ := DataW.trod_string Try.underlying9 h3
      obtain ⟨a', len', cap', z, e4, e5, e6, e7⟩ := open_bytes h4
      simp at e1
      exact ⟨(s, a', len', cap', z), e1, e3, e4, e5, e6, e7⟩
    obtain ⟨q, hq⟩ := choose_lt (α := ByteArray × Option Addr × Nat × Nat × (Nat → Int)) each
    refine ⟨some x, cap, ⟨len, fun i => (q i).1, fun i => (q i).2.2.1, fun i j => if i < len then (q i).2.2.2.2 j else 0⟩, rfl, ?_, ⟨by show len ≤ _; unfold maxLen at hm; omega, fun i hi => ⟨?_, ?_⟩⟩, fun i j => ?_, (fun h => by cases h), hl⟩
    · by_cases h0 : len = 0
      · exact .inl h0
      · have c0 := (hx 0 (by omega)).1
        rw [show x.add (0 * 2) = x from rfl] at c0
        have e := plain_of_cell c0
        refine .inr ⟨x.block, x.off, by rw [← e], Nat.zero_le _, block_of_cell c0, fun i => (q i).2.1, fun i => (q i).2.2.2.1, fun i hi => ?_⟩
        have hi' : i < len := hi
        obtain ⟨g1, g2, _, _⟩ := hx i (by omega)
        obtain ⟨k1, k2, k3, k4, k5, k6⟩ := hq i hi'
        rw [e, add_plain] at g1 g2
        rw [k1] at g1
        rw [k3] at g2
        refine ⟨g1, g2, ?_⟩
        show BytesAt 0 W (q i).2.1 (q i).2.2.1 (fun j => if i < len then (q i).2.2.2.2 j else 0)
        simp only [if_pos hi']
        exact k4
    · have := (hq i hi).2.1
      unfold maxLen at this
      exact this
    · exact (hq i hi).2.2.2.2.1
    · show 0 ≤ (if i < len then (q i).2.2.2.2 j else 0) ∧ (if i < len then (q i).2.2.2.2 j else 0) ≤ 255
      by_cases hi : i < len
      · simp only [if_pos hi]
        exact (hq i hi).2.2.2.2.2 j
      · simp [if_neg hi]

end Go.Proofs.Qxb6621669a
