/-
  ZZElement, ZZSum, zzLimbs, ZZSumWords, zzSameWords; what the laws' locals hold.
-/
import Derived.Test.Qxb6623436aModel
set_option linter.unusedVariables false
namespace Go.Proofs.Qxb6623436a
open Go.RowKit

theorem element_any (lo hi : Int) (w : World) :
    Calls Try.prog 5 #[.int .u64 lo, .int .u64 hi] w fun e w' => e = .returned (.agg #[.int .u64 lo, .int .u64 hi]) ∧ Below w.heap.size w w' := by
  go_enter Try.func5, Try.ntmps5
  go_wp2
  exact bodyPost_ret (v := .agg #[.int .u64 lo, .int .u64 hi]) (by simp [results, Try.results5, go_sem]) rfl ⟨rfl, (Below.refl _ _).alloc (Nat.le_refl _) _⟩

theorem sum_any (s0 s1 s2 s3 s4 : Int) (w : World) :
    Calls Try.prog 6 #[.int .u64 s0, .int .u64 s1, .int .u64 s2, .int .u64 s3, .int .u64 s4] w fun e w' => e = .returned (.agg #[.int .u64 s0, .int .u64 s1, .int .u64 s2, .int .u64 s3, .int .u64 s4]) ∧ Below w.heap.size w w' := by
  go_enter Try.func6, Try.ntmps6
  go_wp2
  exact bodyPost_ret (v := .agg #[.int .u64 s0, .int .u64 s1, .int .u64 s2, .int .u64 s3, .int .u64 s4]) (by simp [results, Try.results6, go_sem]) rfl ⟨rfl, (Below.refl _ _).alloc (Nat.le_refl _) _⟩

theorem limbs_any (lo hi : Int) (h0 : Word lo) (h1 : Word hi) (w : World) :
    Calls Try.prog 8 #[.int .u64 lo, .int .u64 hi] w fun e w' => e = .returned (.agg #[.int .u64 (lo % 4294967296), .int .u64 (lo / 4294967296), .int .u64 (hi % 4294967296), .int .u64 (hi / 4294967296)]) ∧ Below w.heap.size w w' := by
  have m0 := mask_int lo h0.1 h0.2
  have m1 := mask_int hi h1.1 h1.2
  go_enter Try.func8, Try.ntmps8
  go_wp2
  exact bodyPost_ret (v := .agg #[.int .u64 (lo % 4294967296), .int .u64 (lo / 4294967296), .int .u64 (hi % 4294967296), .int .u64 (hi / 4294967296)]) (by simp [results, Try.results8, go_sem]) rfl ⟨rfl, (Below.refl _ _).alloc (Nat.le_refl _) _⟩

set_option maxHeartbeats 1000000 in
theorem sumWords_any (x0 x1 x2 x3 x4 : Int) (w : World) :
    Calls Try.prog 13 #[.agg #[.int .u64 x0, .int .u64 x1, .int .u64 x2, .int .u64 x3, .int .u64 x4]] w fun e w' => e = .returned (.tuple #[.int .u64 x0, .int .u64 x1, .int .u64 x2, .int .u64 x3, .int .u64 x4]) ∧ Below w.heap.size w w' := by
  go_enter Try.func13, Try.ntmps13
  go_wp2
  go_quiet (fail)
  go_wp2
  exact bodyPost_ret (v := .tuple #[.int .u64 x0, .int .u64 x1, .int .u64 x2, .int .u64 x3, .int .u64 x4]) (by simp [results, Try.results13, go_sem]) rfl ⟨rfl, below_drewN ((Below.refl _ _).alloc (Nat.le_refl _) _) _⟩

theorem bcell {W w1 : World} (hb : Below W.heap.size W w1) : (∀ b o, b < W.heap.size → w1.cell? ⟨b, o, none⟩ = W.cell? ⟨b, o, none⟩) ∧ (∀ b o, b < W.heap.size → w1.frozen? ⟨b, o, none⟩ = W.frozen? ⟨b, o, none⟩) :=
  ⟨fun b o h => hb.cell (p := ⟨b, o, none⟩) h, fun b o h => hb.frozen (p := ⟨b, o, none⟩) h⟩

set_option maxHeartbeats 1000000 in
theorem sameWords_any (x0 x1 x2 x3 x4 : Int) (w : World) :
    Calls Try.prog 10 #[.agg #[.int .u64 x0, .int .u64 x1, .int .u64 x2, .int .u64 x3, .int .u64 x4], .agg #[.int .u64 x0, .int .u64 x1, .int .u64 x2, .int .u64 x3, .int .u64 x4]] w fun e w' => e = .returned (.bool true) ∧ Below w.heap.size w w' := by
  go_enter Try.func10, Try.ntmps10
  go_wp2_with (go_at_call 13; refine (sumWords_any x0 x1 x2 x3 x4 _).mono ?_; rintro e w1 ⟨rfl, hb⟩; obtain ⟨hc, hf⟩ := bcell hb)
  go_ret
  exact ⟨by simp, ((((Below.refl _ _).alloc (Nat.le_refl _) _).alloc (by simp) _).trans (hb.mono (by simp; omega)))⟩

theorem below_of {W X w' : World} (hX : Below W.heap.size W X) (b : Below X.heap.size X w') : Below W.heap.size W w' := hX.trans (b.mono hX.size)

/-- A variable of five words, made ahead of a call: there behind it, all zero. -/
theorem want_zero {W w' : World} (b : Below ((W.alloc (Obj.cells #[.int .u64 0, .int .u64 0, .int .u64 0, .int .u64 0, .int .u64 0] 32)).drew).heap.size ((W.alloc (Obj.cells #[.int .u64 0, .int .u64 0, .int .u64 0, .int .u64 0, .int .u64 0] 32)).drew) w') :
    W.heap.size < w'.heap.size ∧ Sum5 w' W.heap.size 0 0 0 0 0 := by
  have hs : W.heap.size < (W.alloc (Obj.cells #[.int .u64 0, .int .u64 0, .int .u64 0, .int .u64 0, .int .u64 0] 32)).drew.heap.size := by simp
  have hh : w'.heap[W.heap.size]? = some (.cells #[.int .u64 0, .int .u64 0, .int .u64 0, .int .u64 0, .int .u64 0] 32 (0, 0)) := by
    rw [b.block _ hs]
    exact heap_alloc_new W _
  exact ⟨Nat.lt_of_lt_of_le hs b.size, ⟨cell_of_blk hh rfl, cell_of_blk hh rfl, cell_of_blk hh rfl, cell_of_blk hh rfl, cell_of_blk hh rfl⟩, frozen_of_blk hh, frozen_of_blk hh, frozen_of_blk hh, frozen_of_blk hh, frozen_of_blk hh⟩

/-- Two words lie in block b. -/
def Two (w : World) (b : Nat) (x y : Int) : Prop := w.cell? ⟨b, 0, none⟩ = some (.int .u64 x) ∧ w.cell? ⟨b, 1, none⟩ = some (.int .u64 y)

theorem Two.lt {w : World} {b : Nat} {x y : Int} (h : Two w b x y) : b < w.heap.size := World.block_lt_of_cell? w _ h.1
theorem Sum5.lt {w : World} {b : Nat} {x0 x1 x2 x3 x4 : Int} (h : Sum5 w b x0 x1 x2 x3 x4) : b < w.heap.size := World.block_lt_of_cell? w _ h.1.1

theorem Two.blk {w w' : World} {b : Nat} {x y : Int} (h : Two w b x y) (e : w'.heap[b]? = w.heap[b]?) : Two w' b x y :=
  ⟨by rw [World.cell?_of_block (w := w) e]; exact h.1, by rw [World.cell?_of_block (w := w) e]; exact h.2⟩

theorem Sum5.blk {w w' : World} {b : Nat} {x0 x1 x2 x3 x4 : Int} (h : Sum5 w b x0 x1 x2 x3 x4) (e : w'.heap[b]? = w.heap[b]?) : Sum5 w' b x0 x1 x2 x3 x4 := by
  obtain ⟨⟨c0, c1, c2, c3, c4⟩, f0, f1, f2, f3, f4⟩ := h
  refine ⟨⟨?_, ?_, ?_, ?_, ?_⟩, ?_, ?_, ?_, ?_, ?_⟩ <;> first | (rw [World.cell?_of_block (w := w) e]; assumption) | (rw [World.frozen?_of_block (w := w) e]; assumption)

theorem Two.below {w w' : World} {b : Nat} {x y : Int} (h : Two w b x y) (hb : Below w.heap.size w w') : Two w' b x y := h.blk (hb.block _ h.lt)
theorem Sum5.below {w w' : World} {b : Nat} {x0 x1 x2 x3 x4 : Int} (h : Sum5 w b x0 x1 x2 x3 x4) (hb : Below w.heap.size w w') : Sum5 w' b x0 x1 x2 x3 x4 := h.blk (hb.block _ h.lt)
theorem Two.grown {w w' : World} {b c : Nat} {x y : Int} (h : Two w b x y) (hb : w.grownBy w' (some c)) (hne : b ≠ c) : Two w' b x y := h.blk (hb.block _ h.lt (by intro e; injection e with e; exact hne e))
theorem Sum5.grown {w w' : World} {b c : Nat} {x0 x1 x2 x3 x4 : Int} (h : Sum5 w b x0 x1 x2 x3 x4) (hb : w.grownBy w' (some c)) (hne : b ≠ c) : Sum5 w' b x0 x1 x2 x3 x4 := h.blk (hb.block _ h.lt (by intro e; injection e with e; exact hne e))

theorem two_new (w : World) (x y : Int) : Two (w.alloc (Obj.cells #[.int .u64 x, .int .u64 y] 24)) w.heap.size x y ∧ Below w.heap.size w (w.alloc (Obj.cells #[.int .u64 x, .int .u64 y] 24)) ∧ (w.alloc (Obj.cells #[.int .u64 x, .int .u64 y] 24)).heap.size = w.heap.size + 1 :=
  ⟨⟨cell_of_blk (heap_alloc_new w _) rfl, cell_of_blk (heap_alloc_new w _) rfl⟩, (Below.refl _ _).alloc (Nat.le_refl _) _, by simp⟩

theorem five_new (w : World) (x0 x1 x2 x3 x4 : Int) : Sum5 (w.alloc (Obj.cells #[.int .u64 x0, .int .u64 x1, .int .u64 x2, .int .u64 x3, .int .u64 x4] 27)) w.heap.size x0 x1 x2 x3 x4 ∧ Below w.heap.size w (w.alloc (Obj.cells #[.int .u64 x0, .int .u64 x1, .int .u64 x2, .int .u64 x3, .int .u64 x4] 27)) ∧ (w.alloc (Obj.cells #[.int .u64 x0, .int .u64 x1, .int .u64 x2, .int .u64 x3, .int .u64 x4] 27)).heap.size = w.heap.size + 1 :=
  ⟨⟨⟨cell_of_blk (heap_alloc_new w _) rfl, cell_of_blk (heap_alloc_new w _) rfl, cell_of_blk (heap_alloc_new w _) rfl, cell_of_blk (heap_alloc_new w _) rfl, cell_of_blk (heap_alloc_new w _) rfl⟩, frozen_of_blk (heap_alloc_new w _), frozen_of_blk (heap_alloc_new w _), frozen_of_blk (heap_alloc_new w _), frozen_of_blk (heap_alloc_new w _), frozen_of_blk (heap_alloc_new w _)⟩, (Below.refl _ _).alloc (Nat.le_refl _) _, by simp⟩

/-- Five words are told by the number that they say. -/
theorem V_inj {x0 x1 x2 x3 x4 y0 y1 y2 y3 y4 : Int} (hx : Word x0 ∧ Word x1 ∧ Word x2 ∧ Word x3 ∧ Word x4) (hy : Word y0 ∧ Word y1 ∧ Word y2 ∧ Word y3 ∧ Word y4) (h : V x0 x1 x2 x3 x4 = V y0 y1 y2 y3 y4) :
    x0 = y0 ∧ x1 = y1 ∧ x2 = y2 ∧ x3 = y3 ∧ x4 = y4 := by
  obtain ⟨⟨_, _⟩, ⟨_, _⟩, ⟨_, _⟩, ⟨_, _⟩, ⟨_, _⟩⟩ := hx
  obtain ⟨⟨_, _⟩, ⟨_, _⟩, ⟨_, _⟩, ⟨_, _⟩, ⟨_, _⟩⟩ := hy
  unfold V at h
  omega

/-- The limbs of two words, and of a number of five limbs whose last is given. -/
def lim2 (lo hi top : Int) : Nat → Int
  | 0 => lo % 4294967296
  | 1 => lo / 4294967296
  | 2 => hi % 4294967296
  | 3 => hi / 4294967296
  | 4 => top
  | _ => 0

theorem lim2_limb {lo hi top : Int} (h0 : Word lo) (h1 : Word hi) (ht : Limb top) : ∀ k, Limb (lim2 lo hi top k) := by
  obtain ⟨_, _⟩ := h0; obtain ⟨_, _⟩ := h1; obtain ⟨_, _⟩ := ht
  intro k
  unfold lim2 Limb
  split <;> omega

theorem lim2_four (lo hi top : Int) : val (lim2 lo hi top) 4 = lo + 18446744073709551616 * hi := by
  simp only [val, pw, lim2]
  omega
theorem lim2_five (lo hi top : Int) : val (lim2 lo hi top) 5 = lo + 18446744073709551616 * hi + 340282366920938463463374607431768211456 * top := by
  simp only [val, pw, lim2]
  omega

/-- The model, handed the limbs of two numbers. -/
theorem model_lim (s0 s1 s2 s3 s4 lo hi lo' hi' top : Int) (h0 : Word s0) (h1 : Word s1) (h2 : Word s2) (h3 : Word s3) (h4 : Word s4) (h5 : Word lo) (h6 : Word hi) (h7 : Word lo') (h8 : Word hi') (ht : Limb top) (w : World) :
    Calls Try.prog 9 #[.int .u64 s0, .int .u64 s1, .int .u64 s2, .int .u64 s3, .int .u64 s4, .agg #[.int .u64 (lo % 4294967296), .int .u64 (lo / 4294967296), .int .u64 (hi % 4294967296), .int .u64 (hi / 4294967296)], .agg #[.int .u64 (lo' % 4294967296), .int .u64 (lo' / 4294967296), .int .u64 (hi' % 4294967296), .int .u64 (hi' / 4294967296), .int .u64 top]] w fun e w' =>
      ∃ x0 x1 x2 x3 x4 : Int, e = .returned (.agg #[.int .u64 x0, .int .u64 x1, .int .u64 x2, .int .u64 x3, .int .u64 x4]) ∧ (Word x0 ∧ Word x1 ∧ Word x2 ∧ Word x3 ∧ Word x4) ∧ Hid (V x0 x1 x2 x3 x4 = (V s0 s1 s2 s3 s4 + (lo + 18446744073709551616 * hi) * (lo' + 18446744073709551616 * hi' + 340282366920938463463374607431768211456 * top)) % N320) ∧ Below w.heap.size w w' := by
  have h := model_any s0 s1 s2 s3 s4 h0 h1 h2 h3 h4 (lim2 lo hi 0) (lim2 lo' hi' top) (lim2_limb h5 h6 ⟨by omega, by omega⟩) (lim2_limb h7 h8 ht) w
  rw [lim2_four, lim2_five] at h
  exact h
end Go.Proofs.Qxb6623436a
