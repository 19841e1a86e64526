/-
  localize's meets (17) and tighter (14).
-/
import Derived.Test.Qxb6623474aDoorBound
set_option linter.unusedVariables false
namespace Go.Proofs.Qxb6623474aDoor
open Go.RowKit

theorem cmp_cases (a b : Int) : cmp a b = -1 ∨ cmp a b = 0 ∨ cmp a b = 1 := by
  unfold cmp; split
  · exact .inl rfl
  · split
    · exact .inr (.inr rfl)
    · exact .inr (.inl rfl)

theorem bcell {W w1 : World} (hb : Below W.heap.size W w1) : (∀ b o, b < W.heap.size → w1.cell? ⟨b, o, none⟩ = W.cell? ⟨b, o, none⟩) ∧ (∀ b o, b < W.heap.size → w1.frozen? ⟨b, o, none⟩ = W.frozen? ⟨b, o, none⟩) :=
  ⟨fun b o h => hb.cell (p := ⟨b, o, none⟩) h, fun b o h => hb.frozen (p := ⟨b, o, none⟩) h⟩

theorem below_of {W X w' : World} (hX : Below W.heap.size W X) (b : Below X.heap.size X w') : Below W.heap.size W w' := hX.trans (b.mono hX.size)

theorem BoundAt.below {B : Nat} {w w' : World} {b : Nat} {n : Int} (h : BoundAt w b n) (hb : Below B w w') (hlt : b < B) : BoundAt w' b n := by
  obtain ⟨ty, s, ht, hh⟩ := h
  exact ⟨ty, s, ht, (hb.block b hlt).trans hh⟩
theorem BoundAt.lt {w : World} {b : Nat} {n : Int} (h : BoundAt w b n) : b < w.heap.size := by
  obtain ⟨ty, s, ht, hh⟩ := h
  exact (Array.getElem?_eq_some_iff.1 hh).1

theorem box4 (w : World) (b : Nat) (x0 x1 x2 x3 : Value) (hlt : b < w.heap.size) (c0 : w.cell? ⟨b, 0, none⟩ = some x0) (c1 : w.cell? ⟨b, 1, none⟩ = some x1) (c2 : w.cell? ⟨b, 2, none⟩ = some x2) (c3 : w.cell? ⟨b, 3, none⟩ = some x3) {x4 : Value} (c4 : w.cell? ⟨b, 4, none⟩ = some x4) (v0 v1 v2 v3 : Value) :
    ∃ W0 : World, W0.cell? ⟨w.heap.size, 0, none⟩ = some v0 ∧ W0.cell? ⟨w.heap.size, 1, none⟩ = some v1 ∧ W0.cell? ⟨w.heap.size, 2, none⟩ = some v2 ∧ W0.cell? ⟨w.heap.size, 3, none⟩ = some v3 ∧
      W0.cell? ⟨b, 0, none⟩ = some x0 ∧ W0.cell? ⟨b, 1, none⟩ = some x1 ∧ W0.cell? ⟨b, 2, none⟩ = some x2 ∧ W0.cell? ⟨b, 3, none⟩ = some x3 ∧ W0.cell? ⟨b, 4, none⟩ = some x4 ∧ w.heap.size ≤ W0.heap.size ∧ b < W0.heap.size ∧ w.heap.size < W0.heap.size ∧
      W0 = w.alloc (.cells #[v0, v1, v2, v3] 41) := by
  have hb0 : Below w.heap.size w (w.alloc (.cells #[v0, v1, v2, v3] 41)) := (Below.refl _ _).alloc (Nat.le_refl _) _
  have hn := (MapKept.heap_alloc w (.cells #[v0, v1, v2, v3] 41)).1
  exact ⟨_, by rw [Lib.cell_of_heap hn]; rfl, by rw [Lib.cell_of_heap hn]; rfl, by rw [Lib.cell_of_heap hn]; rfl, by rw [Lib.cell_of_heap hn]; rfl,
    (hb0.cell (p := ⟨b, 0, none⟩) hlt).trans c0, (hb0.cell (p := ⟨b, 1, none⟩) hlt).trans c1, (hb0.cell (p := ⟨b, 2, none⟩) hlt).trans c2, (hb0.cell (p := ⟨b, 3, none⟩) hlt).trans c3, (hb0.cell (p := ⟨b, 4, none⟩) hlt).trans c4,
    by simp, by simp; omega, by simp, rfl⟩

/-- A bound, or none. -/
def OptBound (w : World) : Option Nat → Option Int → Prop
  | none, none => True
  | some b, some n => BoundAt w b n
  | _, _ => False

def ptrOf (p : Option Nat) : Value := .pointer (p.map fun b => ⟨b, 0, none⟩)

/-- Does n lie within the bound (dir 1: a lower one; -1: an upper one)? -/
def inB (d n : Int) : Option Int → Bool
  | none => true
  | some m => decide (0 ≤ cmp n m * d)

set_option maxHeartbeats 1000000 in
set_option maxRecDepth 100000 in
theorem meets_walk (ty n : Int) (s : ByteArray) (p : Option Nat) (m : Option Int) (d : Int) (w : World) (hty : ty = 2 ∨ ty = 3) (hd : d = 1 ∨ d = -1) (hp : OptBound w p m) :
    Calls Tryd.prog 17 #[vv ty n s, ptrOf p, .int .i64 d] w fun e w' => e = .returned (.bool (inB d n m)) ∧ Below w.heap.size w w' := by
  match p, m, hp with
  | none, none, _ =>
    simp only [ptrOf, inB, Option.map]
    go_enter Tryd.func17, Tryd.ntmps17
    go_wp2
    go_ret
    exact ⟨rfl, (Below.refl _ _).alloc (Nat.le_refl _) _⟩
  | some b, some m, h =>
    simp only [ptrOf, inB, Option.map]
    obtain ⟨ty', s', ht', hh⟩ := h
    have hlt : b < w.heap.size := (Array.getElem?_eq_some_iff.1 hh).1
    have c0 : w.cell? ⟨b, 0, none⟩ = some (.int .u8 ty') := by rw [Lib.cell_of_heap hh]; rfl
    have c1 : w.cell? ⟨b, 1, none⟩ = some (.bool false) := by rw [Lib.cell_of_heap hh]; rfl
    have c2 : w.cell? ⟨b, 2, none⟩ = some (.int .i64 m) := by rw [Lib.cell_of_heap hh]; rfl
    have c3 : w.cell? ⟨b, 3, none⟩ = some (.string s') := by rw [Lib.cell_of_heap hh]; rfl
    have c4 : w.cell? ⟨b, 4, none⟩ = some (.bool true) := by rw [Lib.cell_of_heap hh]; rfl
    clear hh
    have hcc := cmp_cases n m
    obtain ⟨c, hc⟩ : ∃ c, c = cmp n m := ⟨_, rfl⟩
    rw [← hc] at hcc ⊢
    rcases hd with rfl | rfl <;> rcases hcc with rfl | rfl | rfl <;>
    · have CW := fun w' => compare_walk ty n s ty' m s' w' hty
      simp only [← hc] at CW
      clear hc
      go_enter Tryd.func17, Tryd.ntmps17
      go_wp2
      have hb0 : Below w.heap.size w (w.alloc (.cells #[.int .u8 ty, .bool false, .int .i64 n, .string s] 41)) := (Below.refl _ _).alloc (Nat.le_refl _) _
      obtain ⟨W0, e0, e1, e2, e3, g0, g1, g2, g3, g4, z0, z1, z2, hW0⟩ := box4 w b _ _ _ _ hlt c0 c1 c2 c3 c4 (.int .u8 ty) (.bool false) (.int .i64 n) (.string s)
      rw [← hW0] at hb0 ⊢
      obtain ⟨N, hN⟩ : ∃ N, N = w.heap.size := ⟨_, rfl⟩
      rw [← hN] at e0 e1 e2 e3 z0 z2 hb0 ⊢
      have hle : w.heap.size ≤ N := by omega
      clear hW0 hN c0 c1 c2 c3 c4 hlt
      go_region_held3 (fun w' => (w'.cell? ⟨N, 0, none⟩ = some (.int .u8 ty) ∧ w'.cell? ⟨N, 1, none⟩ = some (.bool false) ∧ w'.cell? ⟨N, 2, none⟩ = some (.int .i64 n) ∧ w'.cell? ⟨N, 3, none⟩ = some (.string s)) ∧ w'.cell? ⟨b, 0, none⟩ = some (.int .u8 ty') ∧ w'.cell? ⟨b, 1, none⟩ = some (.bool false) ∧ w'.cell? ⟨b, 2, none⟩ = some (.int .i64 m) ∧ w'.cell? ⟨b, 3, none⟩ = some (.string s')) (go_keep)
        (first
          | (go_at_call 12; refine (CW _).mono ?_; rintro e w1 ⟨rfl, b1⟩; have b1' : Below W0.heap.size W0 w1 := below_of (by first | exact Below.refl _ _ | exact (Below.refl _ _).drew) b1; obtain ⟨hc1, hf1⟩ := bcell b1'; have d4 := (hc1 b 4 z1).trans g4))
      go_wp2
      go_ret
      exact ⟨rfl, (hb0.trans (b1'.mono z0)).mono hle⟩

end Go.Proofs.Qxb6623474aDoor
