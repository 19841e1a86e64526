/-
  localize's closed (15), tighter (14), meets (17), at numbers two away from the ends.
-/
import Derived.Test.Qxb6623474aDoorSmall
import Derived.Deep.RegionHeld3
import Derived.Deep.QuietTactic
import Derived.BigQuiet
set_option linter.unusedVariables false
namespace Go.Proofs.Qxb6623474aDoor
open Go.RowKit

/-- An inclusive bound as a value. -/
abbrev bv (ty n : Int) (s : ByteArray) : Value := .agg #[.int .u8 ty, .bool false, .int .i64 n, .string s, .bool true]
/-- An atom as a value. -/
abbrev av (col op ty n : Int) (nul : Bool) (s : ByteArray) : Value := .agg #[.int .i64 col, .int .u8 op, .int .u8 ty, .bool nul, .int .i64 n, .string s]

/-- The block b is an inclusive bound at n. -/
def BoundAt (w : World) (b : Nat) (n : Int) : Prop := ∃ ty s, (ty = 2 ∨ ty = 3) ∧ w.heap[b]? = some (.cells #[.int .u8 ty, .bool false, .int .i64 n, .string s, .bool true] 60)
/-- The block b is the number n. -/
def NumAt (w : World) (b : Nat) (n : Int) : Prop := ∃ ty s, (ty = 2 ∨ ty = 3) ∧ w.heap[b]? = some (.cells #[.int .u8 ty, .bool false, .int .i64 n, .string s] 41)

theorem heap_two (w : World) (o o' : Obj) : ((w.alloc o).alloc o').heap[w.heap.size + 1]? = some o' := by
  have := (MapKept.heap_alloc (w.alloc o) o').1
  simpa using this

/-- The value that a comparison's bound lies at. -/
def closedAt (op n : Int) : Int := if op = 4 then n + -1 else if op = 6 then n + 1 else n

set_option maxHeartbeats 1000000 in
set_option maxRecDepth 100000 in
theorem closed_walk (col op ty n : Int) (s : ByteArray) (w : World) (hop : op = 4 ∨ op = 5 ∨ op = 6 ∨ op = 7) (hty : ty = 2 ∨ ty = 3) (h0 : -9223372036854775806 ≤ n) (h1 : n ≤ 9223372036854775805) :
    Calls Tryd.prog 15 #[av col op ty n false s] w fun e w' => (∃ ty', (ty' = 2 ∨ ty' = 3) ∧ e = .returned (bv ty' (closedAt op n) s)) ∧ Below w.heap.size w w' := by
  have hb : ∀ (o o' : Obj), Below w.heap.size w ((w.alloc o).alloc o') := fun o o' => ((Below.refl _ _).alloc (Nat.le_refl _) _).alloc (by simp) _
  rcases hop with rfl | rfl | rfl | rfl
  · obtain ⟨N, hN⟩ : ∃ N, N = w.heap.size := ⟨_, rfl⟩
    go_enter Tryd.func15, Tryd.ntmps15
    go_wp2_with (go_at_call 25; refine (next_walk ty n s (-1) _ hty (.inr rfl) h0 h1).mono ?_)
    rintro e w1 ⟨⟨ty', ht', rfl⟩, b1⟩
    have hR := (b1.block (w.heap.size + 1) (by simp)).trans (heap_two w _ _)
    have B1 := (hb _ _).trans (b1.mono (by simp; omega))
    have c0 : w1.cell? ⟨w.heap.size + 1, 0, none⟩ = some (.int .u8 0) := by rw [Lib.cell_of_heap hR]; rfl
    have c1 : w1.cell? ⟨w.heap.size + 1, 1, none⟩ = some (.bool false) := by rw [Lib.cell_of_heap hR]; rfl
    have c2 : w1.cell? ⟨w.heap.size + 1, 2, none⟩ = some (.int .i64 0) := by rw [Lib.cell_of_heap hR]; rfl
    have c3 : w1.cell? ⟨w.heap.size + 1, 3, none⟩ = some (.string ⟨#[]⟩) := by rw [Lib.cell_of_heap hR]; rfl
    have c4 : w1.cell? ⟨w.heap.size + 1, 4, none⟩ = some (.bool false) := by rw [Lib.cell_of_heap hR]; rfl
    have f0 : ∀ j, w1.frozen? ⟨w.heap.size + 1, j, none⟩ = false := fun j => Lib.frozen_of_heap hR j
    have z1 : w.heap.size + 1 < w1.heap.size := (Array.getElem?_eq_some_iff.1 hR).1
    have z2 : w1.heap.size ≠ w.heap.size + 1 := by omega
    clear b1 hR hN
    go_wp2
    exact bodyPost_ret (v := bv ty' (n + -1) s) (by simp [results, Tryd.results15, go_sem, c0, c1, c2, c3, c4, z1]) rfl ⟨⟨ty', ht', rfl⟩, (((((B1.setCell (Nat.le_succ _) _).setCell (Nat.le_succ _) _).setCell (Nat.le_succ _) _).setCell (Nat.le_succ _) _).setCell (Nat.le_succ _) _).alloc (by simp; omega) _⟩
  · go_enter Tryd.func15, Tryd.ntmps15
    go_wp2
    exact bodyPost_ret (v := bv ty n s) (by simp [results, Tryd.results15, go_sem]) rfl ⟨⟨ty, hty, rfl⟩, hb _ _⟩
  · obtain ⟨N, hN⟩ : ∃ N, N = w.heap.size := ⟨_, rfl⟩
    go_enter Tryd.func15, Tryd.ntmps15
    go_wp2_with (go_at_call 25; refine (next_walk ty n s (1) _ hty (.inl rfl) h0 h1).mono ?_)
    rintro e w1 ⟨⟨ty', ht', rfl⟩, b1⟩
    have hR := (b1.block (w.heap.size + 1) (by simp)).trans (heap_two w _ _)
    have B1 := (hb _ _).trans (b1.mono (by simp; omega))
    have c0 : w1.cell? ⟨w.heap.size + 1, 0, none⟩ = some (.int .u8 0) := by rw [Lib.cell_of_heap hR]; rfl
    have c1 : w1.cell? ⟨w.heap.size + 1, 1, none⟩ = some (.bool false) := by rw [Lib.cell_of_heap hR]; rfl
    have c2 : w1.cell? ⟨w.heap.size + 1, 2, none⟩ = some (.int .i64 0) := by rw [Lib.cell_of_heap hR]; rfl
    have c3 : w1.cell? ⟨w.heap.size + 1, 3, none⟩ = some (.string ⟨#[]⟩) := by rw [Lib.cell_of_heap hR]; rfl
    have c4 : w1.cell? ⟨w.heap.size + 1, 4, none⟩ = some (.bool false) := by rw [Lib.cell_of_heap hR]; rfl
    have f0 : ∀ j, w1.frozen? ⟨w.heap.size + 1, j, none⟩ = false := fun j => Lib.frozen_of_heap hR j
    have z1 : w.heap.size + 1 < w1.heap.size := (Array.getElem?_eq_some_iff.1 hR).1
    have z2 : w1.heap.size ≠ w.heap.size + 1 := by omega
    clear b1 hR hN
    go_wp2
    exact bodyPost_ret (v := bv ty' (n + 1) s) (by simp [results, Tryd.results15, go_sem, c0, c1, c2, c3, c4, z1]) rfl ⟨⟨ty', ht', rfl⟩, (((((B1.setCell (Nat.le_succ _) _).setCell (Nat.le_succ _) _).setCell (Nat.le_succ _) _).setCell (Nat.le_succ _) _).setCell (Nat.le_succ _) _).alloc (by simp; omega) _⟩
  · go_enter Tryd.func15, Tryd.ntmps15
    go_wp2
    exact bodyPost_ret (v := bv ty n s) (by simp [results, Tryd.results15, go_sem]) rfl ⟨⟨ty, hty, rfl⟩, hb _ _⟩

end Go.Proofs.Qxb6623474aDoor
