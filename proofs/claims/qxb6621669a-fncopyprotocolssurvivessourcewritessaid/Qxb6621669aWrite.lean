/-
  A list of the call's own that is written over: what stays readable.
-/
import Derived.Test.Qxb6621669aCopy
set_option linter.unusedVariables false
namespace Go.Proofs.Qxb6621669a
open Go.RowKit

set_option maxHeartbeats 400000 in
theorem zzCopy_any (ga : Option Addr) (gc : Nat) (p : PV) (w : World) (hp : ListAt 0 w ga p) (hs : p.small) :
    Calls Try.prog 18 #[.slice ga p.len gc] w fun e w' => ∃ A C, e = .returned (.slice (some ⟨w.heap.size, 0, none⟩) p.len p.len) ∧ OwnL w' w.heap.size p A C ∧ (∀ i, i < p.len → (A i).isSome = true) ∧ Below w.heap.size w w' := by
  go_enter Try.func18, Try.ntmps18
  go_wp2_with (go_at_call 24; refine (copy_any ga gc p _ hp hs).mono ?_; rintro e w' ⟨A, C, rfl, h1, h2, h3⟩)
  go_ret
  exact ⟨A, C, rfl, h1, h2, h3⟩

/-- The list's shape: so many entries, metadata of these lengths where A says; names from k on are short; whatever the bytes are. -/
def OwnW (w : World) (b len : Nat) (ml : Nat → Nat) (A : Nat → Option Addr) (C : Nat → Nat) (k : Nat) : Prop :=
  ∃ (nm : Nat → ByteArray) (bs : Nat → Nat → Int), (∀ i, k ≤ i → i < len → (nm i).size ≤ 1048576) ∧ OwnL w b ⟨len, nm, ml, bs⟩ A C

theorem OwnL.toW {w : World} {b : Nat} {p : PV} {A : Nat → Option Addr} {C : Nat → Nat} (h : OwnL w b p A C) (hs : p.small) : OwnW w b p.len p.ml A C 0 :=
  ⟨p.nm, p.bs, fun i _ hi => (hs.2 i hi).1, h⟩

theorem setCell_size (w : World) (a : Addr) (v : Value) : (w.setCell a v).heap.size = w.heap.size := by simp [World.setCell]

theorem setCell_frozen (w : World) (a x : Addr) (v : Value) : (w.setCell a v).frozen? x = w.frozen? x := by
  simp only [World.frozen?, World.setCell, Array.getElem?_modify]
  by_cases h : a.block = x.block
  · rw [if_pos h]
    cases hx : w.heap[x.block]? with
    | none => rfl
    | some o => cases o <;> rfl
  · rw [if_neg h]

theorem setCell_cell_far (w : World) {a x : Addr} (v : Value) (h : a ≠ x) : (w.setCell a v).cell? x = w.cell? x := World.cell?_setCell_other w a x v h

/-- A metadata byte is written. -/
theorem OwnW.byte {w : World} {b len : Nat} {ml : Nat → Nat} {A : Nat → Option Addr} {C : Nat → Nat} {k : Nat} (h : OwnW w b len ml A C k) {mb j : Nat} (hmb : b < mb) (v : Int) :
    OwnW (w.setCell ⟨mb, j, none⟩ (.int .u8 v)) b len ml A C k := by
  obtain ⟨nm, bs, hn, hlt, h⟩ := h
  refine ⟨nm, fun i l => if A i = some ⟨mb, 0, none⟩ ∧ l = j then v else bs i l, hn, by rw [setCell_size]; exact hlt, fun i hi => ?_⟩
  obtain ⟨g1, g2, g3, g4, g5⟩ := h i hi
  refine ⟨?_, ?_, by rw [setCell_frozen]; exact g3, by rw [setCell_frozen]; exact g4, ?_⟩
  · rw [setCell_cell_far _ _ (by intro e; injection e; omega)]; exact g1
  · rw [setCell_cell_far _ _ (by intro e; injection e; omega)]; exact g2
  · rcases g5 with g5 | ⟨bi, hA, h1, h2, h3⟩
    · exact .inl g5
    · refine .inr ⟨bi, hA, h1, by rw [setCell_size]; exact h2, fun l hl => ⟨?_, by rw [setCell_frozen]; exact (h3 l hl).2⟩⟩
      by_cases e : bi = mb ∧ l = j
      · obtain ⟨rfl, rfl⟩ := e
        rw [World.cell?_setCell_same _ _ _ (h3 l hl).1]
        simp [hA]
      · rw [setCell_cell_far _ _ (by intro e'; injection e' with e1 e2; exact e ⟨e1.symm, e2.symm⟩), (h3 l hl).1]
        have : ¬ (A i = some ⟨mb, 0, none⟩ ∧ l = j) := by
          rintro ⟨e1, e2⟩
          rw [hA] at e1
          injection e1 with e1
          injection e1 with e1
          exact e ⟨e1, e2⟩
        simp only [if_neg this]

/-- Entry k's name is written. -/
theorem OwnW.name {w : World} {b len : Nat} {ml : Nat → Nat} {A : Nat → Option Addr} {C : Nat → Nat} {k : Nat} (h : OwnW w b len ml A C k) (s : ByteArray) :
    OwnW (w.setCell ⟨b, k * 2, none⟩ (.string s)) b len ml A C (k + 1) := by
  obtain ⟨nm, bs, hn, hlt, h⟩ := h
  refine ⟨fun i => if i = k then s else nm i, bs, fun i h1 h2 => ?_, by rw [setCell_size]; exact hlt, fun i hi => ?_⟩
  · show (if i = k then s else nm i).size ≤ 1048576
    rw [if_neg (by omega)]
    exact hn i (by omega) h2
  obtain ⟨g1, g2, g3, g4, g5⟩ := h i hi
  refine ⟨?_, ?_, by rw [setCell_frozen]; exact g3, by rw [setCell_frozen]; exact g4, g5.setCell (by show b < b + 1; omega) _⟩
  · by_cases e : i = k
    · subst e
      rw [World.cell?_setCell_same _ _ _ g1]
      simp
    · rw [setCell_cell_far _ _ (by intro e'; injection e'; omega), g1]
      simp only [if_neg e]
  · rw [setCell_cell_far _ _ (by intro e'; injection e'; omega)]; exact g2

theorem OwnW.drew {w : World} {b len : Nat} {ml : Nat → Nat} {A : Nat → Option Addr} {C : Nat → Nat} {k : Nat} (h : OwnW w b len ml A C k) : OwnW w.drew b len ml A C k := h

theorem OwnL.drewN {w : World} {b : Nat} {p : PV} {A : Nat → Option Addr} {C : Nat → Nat} (h : OwnL w b p A C) (n : Nat) : OwnL (w.drewN n) b p A C := h

theorem OwnL.listAt {w : World} {b : Nat} {p : PV} {A : Nat → Option Addr} {C : Nat → Nat} (h : OwnL w b p A C) : ListAt b w (some ⟨b, 0, none⟩) p :=
  .inr ⟨b, 0, rfl, Nat.le_refl _, h.1, A, C, fun i hi => by
    obtain ⟨g1, g2, _, _, g5⟩ := h.2 i hi
    rw [Nat.zero_add]
    exact ⟨g1, g2, g5.bytesAt.mono (by omega)⟩⟩

end Go.Proofs.Qxb6621669a
