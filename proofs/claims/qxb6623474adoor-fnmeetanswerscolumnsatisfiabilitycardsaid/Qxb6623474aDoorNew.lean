/-
  localize's ZZNewSearch (6).
-/
import Derived.Test.Qxb6623474aDoorSea3
set_option linter.unusedVariables false
namespace Go.Proofs.Qxb6623474aDoor
open Go.RowKit Go.Maps

/-- A search that has met i atoms. -/
structure SxAt (w : World) (B sb cm em : Nat) (A : Nat → Atom) (i : Nat) (st : Sea) (tv : Value) : Prop where
  sea : SeaAt w B cm em (2 * i) st
  hs : SbAt w sb cm em tv
  trail : TrailAt w B tv i
  rep : RepSt A i st
  hsb : B ≤ sb
  ne : cm ≠ em

theorem SxAt.below {w w' : World} {B sb cm em i : Nat} {A : Nat → Atom} {st : Sea} {tv : Value} (h : SxAt w B sb cm em A i st tv) (hb : Below w.heap.size w w') : SxAt w' B sb cm em A i st tv :=
  ⟨SeaAt.below (B' := 0) h.sea hb, (hb.block _ (lt_of_blk h.hs)).trans h.hs, h.trail.below hb, h.rep, h.hsb, h.ne⟩

def NewPost (A : Nat → Atom) (B : Nat) (w : World) (e : Ending) (w' : World) : Prop :=
  ∃ sb cm em, e = .returned (.pointer (some ⟨sb, 0, none⟩)) ∧ Below w.heap.size w w' ∧ SxAt w' B sb cm em A 0 ⟨fun _ => Col.zero, fun _ _ => false⟩ (.slice none 0 0)

theorem zero_fit : Col.zero.fit := by
  refine ⟨fun n h => ?_, fun n h => ?_, fun n h => ?_⟩ <;> cases h
theorem zero_rep (X : World) : ColRep X Col.zero zeroCol := ⟨none, none, none, rfl, ⟨trivial, trivial, trivial, zero_fit⟩⟩

theorem new_sx (A : Nat → Atom) (B : Nat) (w : World) (hB : B ≤ w.heap.size) :
    SxAt (((w.alloc (.map #[] 0)).alloc (.map #[] 0)).alloc (.cells #[.int .i64 0, .map (some w.heap.size), .map (some (w.heap.size + 1)), .slice none 0 0] 36)) B (w.heap.size + 2) w.heap.size (w.heap.size + 1) A 0 ⟨fun _ => Col.zero, fun _ _ => false⟩ (.slice none 0 0) := by
  have b1 := new_below w (.map #[] 0)
  have b2 := new_below (w.alloc (.map #[] 0)) (.map #[] 0)
  have b3 := new_below ((w.alloc (.map #[] 0)).alloc (.map #[] 0)) (.cells #[.int .i64 0, .map (some w.heap.size), .map (some (w.heap.size + 1)), .slice none 0 0] 36)
  have n1 : (w.alloc (.map #[] 0)).heap.size = w.heap.size + 1 := Deep.nblk_alloc _ _
  have n2 : ((w.alloc (.map #[] 0)).alloc (.map #[] 0)).heap.size = w.heap.size + 2 := by rw [Deep.nblk_alloc, n1]
  have C0 := ColsAt.made w (fun _ => zeroCol) (fun _ => rfl)
  have C1 := C0.block (b2.block w.heap.size (by omega))
  have C2 := C1.block (b3.block w.heap.size (by omega))
  have E0 := ExAt.made (w.alloc (.map #[] 0))
  rw [n1] at E0
  have E1 := E0.block (b3.block (w.heap.size + 1) (by omega))
  exact ⟨⟨⟨_, C2, fun col _ => zero_rep _⟩, E1, hB, by omega⟩, by rw [← n2]; exact Deep.blk_alloc_new _ _, ⟨[], World.ownsRow_nil _ _ _ _⟩, repSt_zero A, by omega, by omega⟩

set_option maxHeartbeats 1000000 in
theorem new_walk (A : Nat → Atom) (B : Nat) (w : World) (hB : B ≤ w.heap.size) : Calls Tryd.prog 6 #[] w (NewPost A B w) := by
  have hS := new_sx A B w hB
  have hb : Below w.heap.size w (((w.alloc (.map #[] 0)).alloc (.map #[] 0)).alloc (.cells #[.int .i64 0, .map (some w.heap.size), .map (some (w.heap.size + 1)), .slice none 0 0] 36)) := (((Below.refl _ _).alloc (Nat.le_refl _) _).alloc (by simp) _).alloc (by simp; omega) _
  have hmm : ∀ (t : TypeId) (u : World), (Instr.makeMap t none).run Tryd.prog u = .ok (.map (some u.heap.size)) (u.alloc (.map #[] 0)) := fun _ _ => rfl
  go_enter Tryd.func6, Tryd.ntmps6
  go_wp2
  go_ret
  exact ⟨_, _, _, rfl, hb, hS⟩

end Go.Proofs.Qxb6623474aDoor
