/-
  localize's tighter (14).
-/
import Derived.Test.Qxb6623474aDoorMeets
import Derived.RegionTactic
import Derived.ChangeAlike
set_option linter.unusedVariables false
namespace Go.Proofs.Qxb6623474aDoor
open Go.RowKit

/-- The tighter of two bounds. -/
def tightF (d n : Int) : Option Int → Int
  | none => n
  | some m => if 0 < cmp n m * d then n else m

theorem box5 (w : World) (b : Nat) (x0 x1 x2 x3 x4 : Value) (hlt : b < w.heap.size) (c0 : w.cell? ⟨b, 0, none⟩ = some x0) (c1 : w.cell? ⟨b, 1, none⟩ = some x1) (c2 : w.cell? ⟨b, 2, none⟩ = some x2) (c3 : w.cell? ⟨b, 3, none⟩ = some x3) (c4 : w.cell? ⟨b, 4, none⟩ = some x4) (v0 v1 v2 v3 v4 : Value) :
    ∃ W0 : World, (W0.cell? ⟨w.heap.size, 0, none⟩ = some v0 ∧ W0.cell? ⟨w.heap.size, 1, none⟩ = some v1 ∧ W0.cell? ⟨w.heap.size, 2, none⟩ = some v2 ∧ W0.cell? ⟨w.heap.size, 3, none⟩ = some v3 ∧ W0.cell? ⟨w.heap.size, 4, none⟩ = some v4) ∧
      W0.cell? ⟨b, 0, none⟩ = some x0 ∧ W0.cell? ⟨b, 1, none⟩ = some x1 ∧ W0.cell? ⟨b, 2, none⟩ = some x2 ∧ W0.cell? ⟨b, 3, none⟩ = some x3 ∧ W0.cell? ⟨b, 4, none⟩ = some x4 ∧ w.heap.size ≤ W0.heap.size ∧ b < W0.heap.size ∧ w.heap.size < W0.heap.size ∧
      W0.heap[w.heap.size]? = some (.cells #[v0, v1, v2, v3, v4] 60) ∧ W0 = w.alloc (.cells #[v0, v1, v2, v3, v4] 60) := by
  have hb0 : Below w.heap.size w (w.alloc (.cells #[v0, v1, v2, v3, v4] 60)) := (Below.refl _ _).alloc (Nat.le_refl _) _
  have hn := (MapKept.heap_alloc w (.cells #[v0, v1, v2, v3, v4] 60)).1
  exact ⟨_, ⟨by rw [Lib.cell_of_heap hn]; rfl, by rw [Lib.cell_of_heap hn]; rfl, by rw [Lib.cell_of_heap hn]; rfl, by rw [Lib.cell_of_heap hn]; rfl, by rw [Lib.cell_of_heap hn]; rfl⟩,
    (hb0.cell (p := ⟨b, 0, none⟩) hlt).trans c0, (hb0.cell (p := ⟨b, 1, none⟩) hlt).trans c1, (hb0.cell (p := ⟨b, 2, none⟩) hlt).trans c2, (hb0.cell (p := ⟨b, 3, none⟩) hlt).trans c3, (hb0.cell (p := ⟨b, 4, none⟩) hlt).trans c4,
    by simp, by simp; omega, by simp, hn, rfl⟩

def TightPost (w : World) (r : Int) (e : Ending) (w' : World) : Prop := ∃ q, e = .returned (.pointer (some ⟨q, 0, none⟩)) ∧ BoundAt w' q r ∧ Below w.heap.size w w'

set_option maxHeartbeats 1000000 in
set_option maxRecDepth 100000 in
theorem tighter_walk (p : Option Nat) (m : Option Int) (ty n : Int) (s : ByteArray) (d : Int) (w : World) (hty : ty = 2 ∨ ty = 3) (hd : d = 1 ∨ d = -1) (hp : OptBound w p m) :
    Calls Tryd.prog 14 #[ptrOf p, bv ty n s, .int .i64 d] w (TightPost w (tightF d n m)) := by
  match p, m, hp with
  | none, none, _ =>
    simp only [ptrOf, tightF, Option.map]
    go_enter Tryd.func14, Tryd.ntmps14
    go_wp2
    go_ret
    exact ⟨_, rfl, ⟨ty, s, hty, (MapKept.heap_alloc w _).1⟩, (Below.refl _ _).alloc (Nat.le_refl _) _⟩
  | some b, some m, h =>
    simp only [ptrOf, tightF, Option.map]
    have hBA : BoundAt w b m := h
    obtain ⟨ty', s', ht', hh⟩ := h
    have hlt : b < w.heap.size := (Array.getElem?_eq_some_iff.1 hh).1
    have c0 : w.cell? ⟨b, 0, none⟩ = some (.int .u8 ty') := by rw [Lib.cell_of_heap hh]; rfl
    have c1 : w.cell? ⟨b, 1, none⟩ = some (.bool false) := by rw [Lib.cell_of_heap hh]; rfl
    have c2 : w.cell? ⟨b, 2, none⟩ = some (.int .i64 m) := by rw [Lib.cell_of_heap hh]; rfl
    have c3 : w.cell? ⟨b, 3, none⟩ = some (.string s') := by rw [Lib.cell_of_heap hh]; rfl
    have c4 : w.cell? ⟨b, 4, none⟩ = some (.bool true) := by rw [Lib.cell_of_heap hh]; rfl
    clear hh
    have hcc := cmp_cases n m
    obtain ⟨c, hc⟩ : ∃ c, c = cmp n m := ⟨_, rfl⟩
    rw [← hc] at hcc ⊢
    rcases hd with rfl | rfl <;> rcases hcc with rfl | rfl | rfl <;>
    · have CW := fun w' => compare_walk ty n s ty' m s' w' hty
      simp only [← hc] at CW
      clear hc
      simp only [Int.reduceMul, Int.reduceNeg, Int.reduceLT, if_true, if_false]
      go_enter Tryd.func14, Tryd.ntmps14
      go_wp2
      have hb0 : Below w.heap.size w (w.alloc (.cells #[.int .u8 ty, .bool false, .int .i64 n, .string s, .bool true] 60)) := (Below.refl _ _).alloc (Nat.le_refl _) _
      obtain ⟨W0, ⟨e0, e1, e2, e3, e4⟩, g0, g1, g2, g3, g4, z0, z1, z2, hNB, hW0⟩ := box5 w b _ _ _ _ _ hlt c0 c1 c2 c3 c4 (.int .u8 ty) (.bool false) (.int .i64 n) (.string s) (.bool true)
      rw [← hW0] at hb0 ⊢
      obtain ⟨N, hN⟩ : ∃ N, N = w.heap.size := ⟨_, rfl⟩
      rw [← hN] at e0 e1 e2 e3 e4 z0 z2 hb0 hNB ⊢
      have hle : w.heap.size ≤ N := by omega
      have hbN : BoundAt W0 N n := ⟨ty, s, hty, hNB⟩
      have hbB : BoundAt W0 b m := hBA.below hb0 (by omega)
      clear hW0 hN c0 c1 c2 c3 c4 hlt hNB hBA
      go_region_held3 (fun w' => (w'.cell? ⟨N, 0, none⟩ = some (.int .u8 ty) ∧ w'.cell? ⟨N, 1, none⟩ = some (.bool false) ∧ w'.cell? ⟨N, 2, none⟩ = some (.int .i64 n) ∧ w'.cell? ⟨N, 3, none⟩ = some (.string s)) ∧ w'.cell? ⟨b, 0, none⟩ = some (.int .u8 ty') ∧ w'.cell? ⟨b, 1, none⟩ = some (.bool false) ∧ w'.cell? ⟨b, 2, none⟩ = some (.int .i64 m) ∧ w'.cell? ⟨b, 3, none⟩ = some (.string s')) (go_keep)
        (first
          | (go_at_call 12; refine (CW _).mono ?_; rintro e w1 ⟨rfl, b1⟩; have b1' : Below W0.heap.size W0 w1 := below_of (by first | exact Below.refl _ _ | exact (Below.refl _ _).drew) b1; obtain ⟨hc1, hf1⟩ := bcell b1'))
      have hB1 := (hb0.trans (b1'.mono z0)).mono hle
      have q1 := hbN.below b1' z2
      have q2 := hbB.below b1' z1
      have d0 := (hc1 b 0 z1).trans g0
      have d1 := (hc1 b 1 z1).trans g1
      have d2 := (hc1 b 2 z1).trans g2
      have d3 := (hc1 b 3 z1).trans g3
      have d4 := (hc1 b 4 z1).trans g4
      have d5 := (hc1 N 4 z2).trans e4
      clear hc1 hf1 b1
      go_wp2
      first
        | (go_ret; first | exact ⟨_, rfl, q1, hB1⟩ | exact ⟨_, rfl, q2, hB1⟩)
        | (go_region
           all_goals
             go_wp2
             go_ret
             exact ⟨_, rfl, ⟨ty', s', ht', (MapKept.heap_alloc w1 _).1⟩, (hB1.alloc hB1.size _).drew⟩)

end Go.Proofs.Qxb6623474aDoor
