/-
  meet's closure (16): is the number excluded?
-/
import Derived.Test.Qxb6623474aDoorSea
set_option linter.unusedVariables false
namespace Go.Proofs.Qxb6623474aDoor
open Go.RowKit Go.Maps

theorem val_new (u : World) (ty n : Int) (s : ByteArray) : ValAt (u.alloc (.cells #[.int .u8 ty, .bool false, .int .i64 n, .string s] 41)) u.heap.size 0 ty n s := cells4 (Deep.blk_alloc_new u _)

set_option maxHeartbeats 1000000 in
set_option maxRecDepth 100000 in
theorem excl_walk (B N sb cm em k : Nat) (tv : Value) (F : Int → Int → Bool) (a : Atom) (ty n : Int) (s : ByteArray) (w : World) (hF : FrAt w N sb cm em tv a) (hE : ExAt w em k F) (hty : ty = 2 ∨ ty = 3) (hn : I64 n) (hc : I64 a.col) (hB : B ≤ w.heap.size) (htab : Tab B w) :
    Calls Tryd.prog 16 #[vv ty n s, .pointer (some ⟨N, 0, none⟩), .pointer (some ⟨N + 1, 0, none⟩)] w fun e w' => e = .returned (.bool (F a.col n)) ∧ Below w.heap.size w w' := by
  obtain ⟨X, hX⟩ : ∃ X, X = w.heap.size := ⟨_, rfl⟩
  obtain ⟨W0, hW0⟩ : ∃ W0, W0 = w.alloc (.cells #[.int .u8 ty, .bool false, .int .i64 n, .string s] 41) := ⟨_, rfl⟩
  have b0 : Below w.heap.size w W0 := hW0 ▸ new_below w _
  have v0 := val_new w ty n s
  have F0 := hF.below b0
  have E0 := hE.block (b0.block em (lt_of_blk hE.isMap.choose_spec.choose_spec))
  have T0 := htab.below (b0.mono hB)
  have zB : B ≤ W0.heap.size := Nat.le_trans hB b0.size
  rw [← hX, ← hW0] at v0
  obtain ⟨p2, p3, ps⟩ := F0
  have d2 := cells1 p2
  obtain ⟨d30, -⟩ := cells6 p3
  obtain ⟨-, -, ds, -⟩ := cells4 ps
  obtain ⟨q0, q1, q2, q3⟩ := v0
  have hle : w.heap.size ≤ X := by omega
  have zX : X < W0.heap.size := World.block_lt_of_cell? _ _ q0
  have K := fun (u : World) (hu : Below W0.heap.size W0 u) => key_walk B u.heap.size ty n s (u.alloc (.cells #[.int .u8 ty, .bool false, .int .i64 n, .string s] 41)).drew (val_new u ty n s) hty hn.bounds.1 hn.bounds.2 (Nat.le_trans (Nat.le_trans zB hu.size) (new_below u _).size) ((T0.below (hu.mono zB)).below ((new_drew u _).mono (Nat.le_trans zB hu.size)))
  have L := fun (u : World) (hu : Below W0.heap.size W0 u) => (E0.block (hu.block em (lt_of_blk E0.isMap.choose_spec.choose_spec))).lookup hc hn
  go_enter Tryd.func16, Tryd.ntmps16
  go_wp2
  rw [← hW0, ← hX]
  clear hW0 hX
  go_region_held3 (fun w' => (w'.cell? ⟨N, 0, none⟩ = some (.pointer (some ⟨sb, 0, none⟩)) ∧ w'.cell? ⟨sb, 2, none⟩ = some (.map (some em)) ∧ w'.cell? ⟨N + 1, 0, none⟩ = some (.int .i64 a.col)) ∧ w'.cell? ⟨X, 0, none⟩ = some (.int .u8 ty) ∧ w'.cell? ⟨X, 1, none⟩ = some (.bool false) ∧ w'.cell? ⟨X, 2, none⟩ = some (.int .i64 n) ∧ w'.cell? ⟨X, 3, none⟩ = some (.string s)) (go_keep)
    (first
      | (go_at_call 13; refine (K W0 (Below.refl _ _)).mono ?_; rintro e w1 ⟨rfl, b1⟩; have b1' : Below W0.heap.size W0 w1 := (new_drew W0 _).trans (b1.mono (new_drew W0 _).size); obtain ⟨hc1, hf1⟩ := bcell b1'; have l1 := L w1 b1'; have t2 := (hc1 N 0 (lt_of_blk p2)).trans d2; have t3 := (hc1 (N + 1) 0 (lt_of_blk p3)).trans d30; have ts := (hc1 sb 2 (lt_of_blk ps)).trans ds; have r0 := (hc1 X 0 zX).trans q0; have r1 := (hc1 X 1 zX).trans q1; have r2 := (hc1 X 2 zX).trans q2; have r3 := (hc1 X 3 zX).trans q3))
  all_goals
    go_wp2
    go_ret
    exact ⟨rfl, b0.trans (b1'.mono b0.size)⟩

end Go.Proofs.Qxb6623474aDoor
