/-
  FnAddProductTwiceIsDistributive: the walk, out of the contracts.
-/
import Derived.Test.Qxb6623436aSmall
import Derived.Deep.RegionHeld3
import Derived.Deep.DrawnRows
import Derived.Deep.DeepCutAuto
set_option linter.unusedVariables false
namespace Go.Proofs.Qxb6623436a
open Go.RowKit
attribute [local go_sem ↓] Go.wp_at_zero Go.wp_at_succ

/-- Five limbs lie in block b, and may be written. -/
def Row5 (w : World) (b : Nat) (P : Nat → Int) : Prop := ∀ k, k < 5 → w.cell? ⟨b, k, none⟩ = some (.int .u64 (P k)) ∧ w.frozen? ⟨b, k, none⟩ = false

theorem Row5.set {w : World} {b : Nat} {P : Nat → Int} (h : Row5 w b P) {k : Nat} (hk : k < 5) (v : Int) : Row5 (w.setCell ⟨b, k, none⟩ (.int .u64 v)) b (upd P k v) := by
  intro j hj
  refine ⟨?_, by rw [World.frozen?_setCell]; exact (h j hj).2⟩
  by_cases e : j = k
  · subst e
    rw [World.cell?_setCell_same _ _ _ (h j hj).1]
    simp [upd]
  · rw [World.cell?_setCell_other _ _ _ _ (by intro e'; injection e' with _ e2; exact e e2.symm), (h j hj).1]
    simp [upd, e]

theorem Row5.sum {w : World} {b : Nat} {P : Nat → Int} (h : Row5 w b P) : Sum5 w b (P 0) (P 1) (P 2) (P 3) (P 4) :=
  ⟨⟨(h 0 (by omega)).1, (h 1 (by omega)).1, (h 2 (by omega)).1, (h 3 (by omega)).1, (h 4 (by omega)).1⟩, (h 0 (by omega)).2, (h 1 (by omega)).2, (h 2 (by omega)).2, (h 3 (by omega)).2, (h 4 (by omega)).2⟩

/-- Five words written into a block that is there. -/
theorem Sum5.put {w : World} {b : Nat} {s0 s1 s2 s3 s4 : Int} (h : Sum5 w b s0 s1 s2 s3 s4) (x0 x1 x2 x3 x4 : Int) :
    Sum5 (((((w.setCell ⟨b, 0, none⟩ (.int .u64 x0)).setCell ⟨b, 1, none⟩ (.int .u64 x1)).setCell ⟨b, 2, none⟩ (.int .u64 x2)).setCell ⟨b, 3, none⟩ (.int .u64 x3)).setCell ⟨b, 4, none⟩ (.int .u64 x4)) b x0 x1 x2 x3 x4 := by
  obtain ⟨⟨c0, c1, c2, c3, c4⟩, f0, f1, f2, f3, f4⟩ := h
  have hb : b < w.heap.size := World.block_lt_of_cell? w _ c0
  refine ⟨⟨?_, ?_, ?_, ?_, ?_⟩, ?_, ?_, ?_, ?_, ?_⟩ <;> simp [go_sem, *]

theorem put_grown (w : World) (b : Nat) (v0 v1 v2 v3 v4 : Value) : w.grownBy (((((w.setCell ⟨b, 0, none⟩ v0).setCell ⟨b, 1, none⟩ v1).setCell ⟨b, 2, none⟩ v2).setCell ⟨b, 3, none⟩ v3).setCell ⟨b, 4, none⟩ v4) (some b) :=
  grown_set (grown_set (grown_set (grown_set (grown_set (grown_refl _ _) _ _) _ _) _ _) _ _) _ _

theorem five_any (w : World) (x0 x1 x2 x3 x4 : Int) (t : TypeId) : Sum5 (w.alloc (Obj.cells #[.int .u64 x0, .int .u64 x1, .int .u64 x2, .int .u64 x3, .int .u64 x4] t)) w.heap.size x0 x1 x2 x3 x4 :=
  ⟨⟨cell_of_blk (heap_alloc_new w _) rfl, cell_of_blk (heap_alloc_new w _) rfl, cell_of_blk (heap_alloc_new w _) rfl, cell_of_blk (heap_alloc_new w _) rfl, cell_of_blk (heap_alloc_new w _) rfl⟩, frozen_of_blk (heap_alloc_new w _), frozen_of_blk (heap_alloc_new w _), frozen_of_blk (heap_alloc_new w _), frozen_of_blk (heap_alloc_new w _), frozen_of_blk (heap_alloc_new w _)⟩

/-- The sum's loop, one limb. -/
theorem sum_val {D F G : Nat → Int} {k : Nat} {c : Int} (h : val D k + c * pw k = val F k + val G k) :
    val (upd D k ((F k + G k + c) % 4294967296)) (k + 1) + (F k + G k + c) / 4294967296 * pw (k + 1) = val F (k + 1) + val G (k + 1) := by
  rw [val_upd _ _ _ _ (by omega), val_succ D k, pw_succ, val_succ F k, val_succ G k]
  have e : (F k + G k + c) % 4294967296 + 4294967296 * ((F k + G k + c) / 4294967296) = F k + G k + c := by omega
  generalize (F k + G k + c) % 4294967296 = v at *
  generalize (F k + G k + c) / 4294967296 = q at *
  have e2 : (v + 4294967296 * q) * pw k = (F k + G k + c) * pw k := by rw [e]
  simp only [Int.add_mul, Int.sub_mul, Int.mul_assoc] at e2 ⊢
  have e3 : q * (4294967296 * pw k) = 4294967296 * (q * pw k) := by rw [Int.mul_left_comm]
  omega

theorem twice_val {V0 E F G X H : Int} (h1 : X = (V0 + E * F) % N320) (h2 : H = F + G) : (X + E * G) % N320 = (V0 + E * H) % N320 := by
  rw [h1, h2, Int.emod_add_emod, Int.mul_add]
  congr 1
  omega

theorem two_blocks (w : World) (c d : Array Value) (t u : TypeId) :
    ((w.alloc (Obj.cells c t)).alloc (Obj.cells d u)).heap[w.heap.size]? = some (.cells c t (0, 0)) ∧ ((w.alloc (Obj.cells c t)).alloc (Obj.cells d u)).heap[w.heap.size + 1]? = some (.cells d u (0, 0)) ∧
    Below w.heap.size w ((w.alloc (Obj.cells c t)).alloc (Obj.cells d u)) ∧ ((w.alloc (Obj.cells c t)).alloc (Obj.cells d u)).heap.size = w.heap.size + 2 := by
  refine ⟨?_, ?_, ((Below.refl _ _).alloc (Nat.le_refl _) _).alloc (by simp) _, by simp⟩
  · rw [Below.heap_alloc _ _ _ (by simp)]
    exact heap_alloc_new w _
  · have := heap_alloc_new (w.alloc (.cells c t)) (.cells d u)
    simpa using this

/-- The model, handed the limbs of a number and a row of limbs. -/
theorem model_row (s0 s1 s2 s3 s4 lo hi : Int) (B : Nat → Int) (h0 : Word s0) (h1 : Word s1) (h2 : Word s2) (h3 : Word s3) (h4 : Word s4) (h5 : Word lo) (h6 : Word hi) (hB : ∀ k, Limb (B k)) (w : World) :
    Calls Try.prog 9 #[.int .u64 s0, .int .u64 s1, .int .u64 s2, .int .u64 s3, .int .u64 s4, .agg #[.int .u64 (lo % 4294967296), .int .u64 (lo / 4294967296), .int .u64 (hi % 4294967296), .int .u64 (hi / 4294967296)], .agg #[.int .u64 (B 0), .int .u64 (B 1), .int .u64 (B 2), .int .u64 (B 3), .int .u64 (B 4)]] w fun e w' =>
      ∃ x0 x1 x2 x3 x4 : Int, e = .returned (.agg #[.int .u64 x0, .int .u64 x1, .int .u64 x2, .int .u64 x3, .int .u64 x4]) ∧ (Word x0 ∧ Word x1 ∧ Word x2 ∧ Word x3 ∧ Word x4) ∧ Hid (V x0 x1 x2 x3 x4 = (V s0 s1 s2 s3 s4 + (lo + 18446744073709551616 * hi) * val B 5) % N320) ∧ Below w.heap.size w w' := by
  have h := model_any s0 s1 s2 s3 s4 h0 h1 h2 h3 h4 (lim2 lo hi 0) B (lim2_limb h5 h6 ⟨by omega, by omega⟩) hB w
  rw [lim2_four] at h
  exact h

theorem gcell {w w' : World} {c : Nat} (hb : w.grownBy w' (some c)) : ∀ b o, b < w.heap.size → b ≠ c → w'.cell? ⟨b, o, none⟩ = w.cell? ⟨b, o, none⟩ :=
  fun b o h hne => World.cell?_of_block (w := w) (hb.block b h (by intro e; injection e with e; exact hne e))

theorem val5 (E : Nat → Int) (h : E 4 = 0) : val E 5 = (E 0 + 4294967296 * E 1) + 18446744073709551616 * (E 2 + 4294967296 * E 3) := by
  simp only [val, pw, h]
  omega

theorem word_of_limbs {a b : Int} (ha : Limb a) (hb : Limb b) : Word (a + 4294967296 * b) := by
  obtain ⟨_, _⟩ := ha
  obtain ⟨_, _⟩ := hb
  exact ⟨by omega, by omega⟩

/-- What the laws' last part is told: where everything lies behind the model's call. -/
def Met2 (w : World) (be bs bh : Nat) (el eh x0 x1 x2 x3 x4 d0 d1 d2 d3 d4 : Int) (Z : Int) (s : Value) (wx : World) : Prop :=
  ∃ (bw : Nat) (v0 v1 v2 v3 v4 : Int), s = .pointer (some ⟨bw, 0, none⟩) ∧ (Word v0 ∧ Word v1 ∧ Word v2 ∧ Word v3 ∧ Word v4) ∧ Hid (V v0 v1 v2 v3 v4 = Z) ∧
    Sum5 wx bw v0 v1 v2 v3 v4 ∧ Sum5 wx bs x0 x1 x2 x3 x4 ∧ Two wx be el eh ∧ Sum5 wx bh d0 d1 d2 d3 d4 ∧ Below w.heap.size w wx

set_option maxRecDepth 100000 in
set_option maxHeartbeats 4000000 in
theorem law2 (s0 s1 s2 s3 s4 el eh fl fh gl gh : Int) (h0 : Word s0) (h1 : Word s1) (h2 : Word s2) (h3 : Word s3) (h4 : Word s4) (h5 : Word el) (h6 : Word eh) (h7 : Word fl) (h8 : Word fh) (h9 : Word gl) (h10 : Word gh) (w : World) :
    Calls Try.prog 4 #[.int .u64 s0, .int .u64 s1, .int .u64 s2, .int .u64 s3, .int .u64 s4, .int .u64 el, .int .u64 eh, .int .u64 fl, .int .u64 fh, .int .u64 gl, .int .u64 gh] w fun e w' => e = .returned (.bool true) ∧ Below w.heap.size w w' := by
  go_enter Try.func4, Try.ntmps4
  go_wp2_with fail
  refine (element_any el eh _).mono ?_
  rintro e w1 ⟨rfl, hb1⟩
  go_wp2_with fail
  obtain ⟨e1, b1, z1⟩ := two_new w1 el eh
  have hz1 := hb1.size
  have B1 := hb1.trans (b1.mono hz1)
  generalize w1.alloc (Obj.cells #[.int .u64 el, .int .u64 eh] 24) = W1 at *
  clear hb1 b1
  generalize w1.heap.size = be at *
  refine (element_any fl fh _).mono ?_
  rintro e w2 ⟨rfl, hb2⟩
  go_wp2_with fail
  obtain ⟨f2, b2, z2⟩ := two_new w2 fl fh
  have hz2 := hb2.size
  have b2' := hb2.trans (b2.mono hz2)
  have e2 := e1.below b2'
  have B2 := B1.trans (b2'.mono B1.size)
  generalize w2.alloc (Obj.cells #[.int .u64 fl, .int .u64 fh] 24) = W2 at *
  clear hb2 b2 b2' e1 B1
  generalize w2.heap.size = bf at *
  refine (element_any gl gh _).mono ?_
  rintro e w3 ⟨rfl, hb3⟩
  go_wp2_with fail
  obtain ⟨g3, b3, z3⟩ := two_new w3 gl gh
  have hz3 := hb3.size
  have b3' := hb3.trans (b3.mono hz3)
  have e3 := e2.below b3'
  have f3 := f2.below b3'
  have B3 := B2.trans (b3'.mono B2.size)
  generalize w3.alloc (Obj.cells #[.int .u64 gl, .int .u64 gh] 24) = W3 at *
  clear hb3 b3 b3' e2 f2 B2
  generalize w3.heap.size = bg at *
  refine (sum_any s0 s1 s2 s3 s4 _).mono ?_
  rintro e w4 ⟨rfl, hb4⟩
  obtain ⟨t4, b4, z4⟩ := five_new w4 s0 s1 s2 s3 s4
  have hz4 := hb4.size
  have b4' := hb4.trans (b4.mono hz4)
  have e4 := e3.below b4'
  have f4 := f3.below b4'
  have g4 := g3.below b4'
  have B4 := B3.trans (b4'.mono B3.size)
  obtain ⟨e40, e41⟩ := e3.below hb4
  obtain ⟨f40, f41⟩ := f3.below hb4
  have le := (e3.below hb4).lt
  have lf := (f3.below hb4).lt
  clear e3 f3 g3 B3
  go_wp2_with fail
  clear e40 e41 f40 f41
  generalize w4.alloc (Obj.cells #[.int .u64 s0, .int .u64 s1, .int .u64 s2, .int .u64 s3, .int .u64 s4] 27) = W4 at *
  clear hb4 b4 b4'
  generalize w4.heap.size = bs at *
  refine (addProduct_any bs s0 s1 s2 s3 s4 el eh fl fh h0 h1 h2 h3 h4 h5 h6 h7 h8 _ t4).mono ?_
  rintro e w5 ⟨rfl, y0, y1, y2, y3, y4, hy, vy, s5, q5⟩
  have nes : be ≠ bs := by omega
  have nfs : bf ≠ bs := by omega
  have ngs : bg ≠ bs := by omega
  have e5 := e4.grown q5 nes
  have g5 := g4.grown q5 ngs
  have z5 := q5.size
  have B5 : Below w.heap.size w w5 := B4.grown q5 B4.size (fun k hk => by cases hk; omega)
  clear e4 f4 g4 t4 B4 q5
  obtain ⟨e50, e51⟩ := id e5
  obtain ⟨g50, g51⟩ := g5
  go_wp2_with fail
  refine (addProduct_any bs y0 y1 y2 y3 y4 el eh gl gh hy.1 hy.2.1 hy.2.2.1 hy.2.2.2.1 hy.2.2.2.2 h5 h6 h9 h10 _ s5).mono ?_
  rintro e w6 ⟨rfl, x0, x1, x2, x3, x4, hx, vx, s6, q6⟩
  have e6 := e5.grown q6 nes
  have z6 := q6.size
  have B6 : Below w.heap.size w w6 := B5.grown q6 B5.size (fun k hk => by cases hk; omega)
  clear e50 e51 g50 g51 e5 s5 q6 B5
  go_wp2_with fail
  refine (limbs_any fl fh h7 h8 _).mono ?_
  rintro e w7 ⟨rfl, b7⟩
  have s7 := s6.below b7
  have e7 := e6.below b7
  have B7 := B6.trans (b7.mono B6.size)
  clear s6 e6 b7 B6
  go_wp2_with fail
  have l7 : (w7.alloc (Obj.cells #[.int .u64 (fl % 4294967296), .int .u64 (fl / 4294967296), .int .u64 (fh % 4294967296), .int .u64 (fh / 4294967296)] 30)).heap[w7.heap.size]? = some (.cells #[.int .u64 (fl % 4294967296), .int .u64 (fl / 4294967296), .int .u64 (fh % 4294967296), .int .u64 (fh / 4294967296)] 30 (0, 0)) := heap_alloc_new w7 _
  have b7' : Below w7.heap.size w7 (w7.alloc (Obj.cells #[.int .u64 (fl % 4294967296), .int .u64 (fl / 4294967296), .int .u64 (fh % 4294967296), .int .u64 (fh / 4294967296)] 30)) := (Below.refl _ _).alloc (Nat.le_refl _) _
  have z7 : (w7.alloc (Obj.cells #[.int .u64 (fl % 4294967296), .int .u64 (fl / 4294967296), .int .u64 (fh % 4294967296), .int .u64 (fh / 4294967296)] 30)).heap.size = w7.heap.size + 1 := by simp
  generalize w7.alloc (Obj.cells #[.int .u64 (fl % 4294967296), .int .u64 (fl / 4294967296), .int .u64 (fh % 4294967296), .int .u64 (fh / 4294967296)] 30) = W7 at *
  have s7' := s7.below b7'
  have e7' := e7.below b7'
  have B7' := B7.trans (b7'.mono B7.size)
  clear s7 e7 B7 b7'
  generalize w7.heap.size = bl at *
  refine (limbs_any gl gh h9 h10 _).mono ?_
  rintro e w8 ⟨rfl, b8⟩
  have s8 := s7'.below b8
  have e8 := e7'.below b8
  have B8 := B7'.trans (b8.mono B7'.size)
  have l8 := (b8.block bl (by omega)).trans l7
  have z8 := b8.size
  clear s7' e7' b8 B7' l7
  go_wp2_with fail
  obtain ⟨m1, m2, m3, m4⟩ := two_blocks w8 #[.int .u64 (gl % 4294967296), .int .u64 (gl / 4294967296), .int .u64 (gh % 4294967296), .int .u64 (gh / 4294967296)] #[.int .u64 0, .int .u64 0, .int .u64 0, .int .u64 0, .int .u64 0] 30 32
  generalize (w8.alloc (Obj.cells #[.int .u64 (gl % 4294967296), .int .u64 (gl / 4294967296), .int .u64 (gh % 4294967296), .int .u64 (gh / 4294967296)] 30)).alloc (Obj.cells #[.int .u64 0, .int .u64 0, .int .u64 0, .int .u64 0, .int .u64 0] 32) = Y at *
  have s9 := s8.below m3
  have e9 := e8.below m3
  have B9 := B8.trans (m3.mono B8.size)
  have l9 := (m3.block bl (by omega)).trans l8
  have cF : ∀ k, k < 4 → Y.cell? ⟨bl, k, none⟩ = some (.int .u64 (lim2 fl fh 0 k)) := fun k hk => cell_of_blk l9 (four (lim2 fl fh 0) k hk)
  have cG : ∀ k, k < 4 → Y.cell? ⟨w8.heap.size, k, none⟩ = some (.int .u64 (lim2 gl gh 0 k)) := fun k hk => cell_of_blk m1 (four (lim2 gl gh 0) k hk)
  have cH : Row5 Y (w8.heap.size + 1) (fun _ => 0) := fun k hk => ⟨cell_of_blk m2 (five (fun _ => 0) k hk), frozen_of_blk m2⟩
  have ls := s9.lt
  have le9 := e9.lt
  have nsh : bs < w8.heap.size := s8.lt
  have neh : be < w8.heap.size := e8.lt
  have nlh : bl < w8.heap.size := by omega
  have Hall := hide (And.intro s9 (And.intro e9 (And.intro B9 (And.intro cF cG))))
  have hwm := B8.size
  have LF := hide (lim2_limb (top := 0) h7 h8 ⟨by omega, by omega⟩)
  have LG := hide (lim2_limb (top := 0) h9 h10 ⟨by omega, by omega⟩)
  clear m1 m2 m3 s8 e8 B8 l8 s9 e9 B9 l9 cF cG z1 z2 z3 z4 z5 z6 z7 z8 hz1 hz2 hz3 hz4
  generalize w8.heap.size = bm at *
  go_loopw [30, 31] (fun cc ck wx => ∃ (k : Nat) (c : Int) (D : Nat → Int), k ≤ 4 ∧ ck = .int .i64 k ∧ cc = .int .u64 c ∧ (0 ≤ c ∧ c ≤ 1) ∧ Hid (Row5 wx (bm + 1) D ∧ (∀ k, Limb (D k))) ∧ Hid (val D k + c * pw k = val (lim2 fl fh 0) k + val (lim2 gl gh 0) k) ∧ Below (bm + 1) Y wx) (fun _ ck _ => 4 - (intOf ck).toNat)
  case atStart => exact ⟨0, 0, fun _ => 0, by omega, rfl, rfl, ⟨by omega, by omega⟩, hide ⟨cH, fun _ => ⟨by show (0 : Int) ≤ 0; omega, by show (0 : Int) < 4294967296; omega⟩⟩, hide (by simp [val]), Below.refl _ _⟩
  case round =>
    obtain ⟨k, c, D, hk, rfl, rfl, hc, HD, hvD, hbD⟩ := hrel
    clear cH
    by_cases hk4 : k < 4
    · have g1 : wr.cell? ⟨bl, k, none⟩ = some (.int .u64 (lim2 fl fh 0 k)) := by rw [hbD.cell (by show bl < bm + 1; omega)]; exact (unhide Hall).2.2.2.1 k hk4
      have g2 : wr.cell? ⟨bm, k, none⟩ = some (.int .u64 (lim2 gl gh 0 k)) := by rw [hbD.cell (by show bm < bm + 1; omega)]; exact (unhide Hall).2.2.2.2 k hk4
      obtain ⟨g3, g4⟩ := (unhide HD).1 k (by omega)
      obtain ⟨y1, y2⟩ := unhide LF k
      obtain ⟨y3, y4⟩ := unhide LG k
      obtain ⟨y5, y6⟩ := hc
      have hk0 : (0 : Int) ≤ (k : Int) := by omega
      have hk1 : (k : Int) < 4 := by omega
      have hst := hide (sum_val (unhide hvD))
      have hmk := hide (mask_int (lim2 fl fh 0 k + lim2 gl gh 0 k + c) (by omega) (by omega))
      generalize lim2 fl fh 0 k = fk at *
      generalize lim2 gl gh 0 k = gk at *
      go_wp2
      go_quiet (fail)
      go_wp2
      go_roundw
      case rel =>
        rw [unhide hmk]
        exact ⟨k + 1, _, upd D k ((fk + gk + c) % 4294967296), by omega, by go_num, rfl, ⟨by omega, by omega⟩, hide ⟨Row5.set (unhide HD).1 (by omega) _, limb_upd (unhide HD).2 _ ⟨by omega, by omega⟩⟩, hst, Below.setCell (p := ⟨bm + 1, k, none⟩) (below_drewN hbD _) (Nat.le_refl _) _⟩
      case measure => simp [intOf]; omega
    · have ek : k = 4 := by omega
      subst ek
      obtain ⟨g3, g4⟩ := (unhide HD).1 4 (by omega)
      have rZ := Row5.set (unhide HD).1 (k := 4) (by omega) c
      have LD := limb_upd (unhide HD).2 4 (v := c) ⟨by omega, by omega⟩
      have vZ : val (upd D 4 c) 5 = (fl + 18446744073709551616 * fh) + (gl + 18446744073709551616 * gh) := by
        have hv := unhide hvD
        rw [lim2_four, lim2_four] at hv
        rw [val_upd _ _ _ _ (by omega), val_succ D 4, Int.sub_mul]
        omega
      have bZ : Below (bm + 1) Y (wr.setCell ⟨bm + 1, 4, none⟩ (.int .u64 c)) := hbD.setCell (Nat.le_refl _) _
      have d4 : upd D 4 c 4 = c := by simp [upd]
      have HdZ := hide d4
      clear d4
      go_wp2_with fail
      clear g3 g4 HD hvD hbD
      generalize wr.setCell ⟨bm + 1, 4, none⟩ (.int .u64 c) = Z at *
      generalize upd D 4 c = E at *
      have sZ := (unhide Hall).1.blk (bZ.block bs (by omega))
      have eZ := (unhide Hall).2.1.blk (bZ.block be (by omega))
      have BZ : Below w.heap.size w Z := (unhide Hall).2.2.1.trans (bZ.mono (by omega))
      have HvZ := hide vZ
      clear vZ bZ Hall LF LG
      have dZ := rZ.sum
      obtain ⟨⟨d0, d1, d2, d3, d4⟩, _⟩ := id dZ
      have ldZ := dZ.lt
      have lsZ := sZ.lt
      have leZ := eZ.lt
      have nZ : Z.heap.size ≠ bm + 1 := by omega
      have nZs : bs ≠ Z.heap.size := by omega
      have nZe : be ≠ Z.heap.size := by omega
      have nZd : bm + 1 ≠ Z.heap.size := by omega
      go_cut [33] (fun t33 wx => Met2 w be bs (bm + 1) el eh x0 x1 x2 x3 x4 (E 0) (E 1) (E 2) (E 3) (E 4) ((V s0 s1 s2 s3 s4 + (el + 18446744073709551616 * eh) * val E 5) % N320) t33 wx)
      case first =>
        go_region_held3 (fun w' => w'.cell? ⟨bm + 1, 0, none⟩ = some (.int .u64 (E 0)) ∧ w'.cell? ⟨bm + 1, 1, none⟩ = some (.int .u64 (E 1)) ∧ w'.cell? ⟨bm + 1, 2, none⟩ = some (.int .u64 (E 2)) ∧ w'.cell? ⟨bm + 1, 3, none⟩ = some (.int .u64 (E 3)) ∧ w'.cell? ⟨bm + 1, 4, none⟩ = some (.int .u64 (E 4))) (go_keep)
          (first
            | (go_at_call 8; refine (limbs_any el eh h5 h6 _).mono ?_; rintro e w8 ⟨rfl, b8⟩; have b8' : Below Z.heap.size Z w8 := below_of (by first | exact (Below.refl _ _).drew | exact ((Below.refl _ _).alloc (Nat.le_refl _) _).drew) b8; obtain ⟨hc8, hf8⟩ := bcell b8'; have z8 := b8'.size; (try (have hz8 := want_zero b8; obtain ⟨p80, ⟨p81, p82, p83, p84, p85⟩, p86, p87, p88, p89, p90⟩ := id hz8)); have l81 : bm + 1 < w8.heap.size := (by omega); have n81 : w8.heap.size ≠ bm + 1 := (by omega))
            | (go_at_call 9; refine (model_row s0 s1 s2 s3 s4 el eh E h0 h1 h2 h3 h4 h5 h6 LD _).mono ?_; rintro e w9 ⟨v0, v1, v2, v3, v4, rfl, hv, vv, b9⟩; have b9' : Below w8.heap.size w8 w9 := below_of (by first | exact Below.refl _ _ | exact (Below.refl _ _).alloc (Nat.le_refl _) _) b9; obtain ⟨hc9, hf9⟩ := bcell b9'; obtain ⟨hd9, hg9⟩ := bcell b9; have z9 := b9'.size))
        all_goals
          go_wp2_with fail
          go_meet
          have s9 := (sZ.below b8').below b9'
          have e9 := (eZ.below b8').below b9'
          have d9 := (dZ.below b8').below b9'
          have B9 : Below w.heap.size w w9 := BZ.trans ((b8'.trans (b9'.mono z8)).mono BZ.size)
          have wZ := BZ.size
          have w9z := B9.size
        · have hal : Below w9.heap.size w9 (w9.alloc (Obj.cells #[.int .u64 v0, .int .u64 v1, .int .u64 v2, .int .u64 v3, .int .u64 v4] 32)) := (Below.refl _ _).alloc (Nat.le_refl _) _
          exact ⟨w9.heap.size, v0, v1, v2, v3, v4, rfl, hv, vv, five_any w9 v0 v1 v2 v3 v4 32, s9.below hal, e9.below hal, d9.below hal, B9.alloc w9z _⟩
        · have q0 : Sum5 w9 w8.heap.size 0 0 0 0 0 := (five_any w8 0 0 0 0 0 32).below b9
          have qg := put_grown w9 w8.heap.size (.int .u64 v0) (.int .u64 v1) (.int .u64 v2) (.int .u64 v3) (.int .u64 v4)
          exact ⟨w8.heap.size, v0, v1, v2, v3, v4, rfl, hv, vv, q0.put v0 v1 v2 v3 v4, s9.grown qg (by omega), e9.grown qg (by omega), d9.grown qg (by omega), B9.grown qg w9z (fun k hk => by cases hk; omega)⟩
        · have q0 : Sum5 w9 Z.heap.size 0 0 0 0 0 := hz8.2.below b9'
          have qg := put_grown w9 Z.heap.size (.int .u64 v0) (.int .u64 v1) (.int .u64 v2) (.int .u64 v3) (.int .u64 v4)
          exact ⟨Z.heap.size, v0, v1, v2, v3, v4, rfl, hv, vv, q0.put v0 v1 v2 v3 v4, s9.grown qg nZs, e9.grown qg nZe, d9.grown qg nZd, B9.grown qg w9z (fun k hk => by cases hk; omega)⟩
      case rest =>
        obtain ⟨bw, v0, v1, v2, v3, v4, rfl, hv, vv, q33, s33, e33, d33, B33⟩ := hcut
        obtain ⟨rfl, rfl, rfl, rfl, rfl⟩ := V_inj hx hv (by rw [unhide vx, unhide vv]; exact twice_val (unhide vy) (unhide HvZ))
        clear sZ eZ BZ dZ d0 d1 d2 d3 d4 rZ ldZ lsZ leZ nZ nZs nZe nZd
        have lq := q33.lt
        have ld := d33.lt
        have le3 := e33.lt
        have q33' := q33
        obtain ⟨⟨a0, a1, a2, a3, a4⟩, _⟩ := q33'
        obtain ⟨⟨i0, i1, i2, i3, i4⟩, _⟩ := s33
        go_wp2_with fail
        refine (sameWords_any x0 x1 x2 x3 x4 _).mono ?_
        rintro e w10 ⟨rfl, b10⟩
        have q10 := q33.below b10
        have e10 := e33.below b10
        have d10 := d33.below b10
        have B10 := B33.trans (b10.mono B33.size)
        clear a0 a1 a2 a3 a4 i0 i1 i2 i3 i4 q33 e33 d33 B33 b10
        have d10' := d10
        obtain ⟨⟨d0, d1, d2, d3, d4⟩, _⟩ := d10'
        by_cases hE : E 4 = 0
        · have hE1 : (E 4 == 0) = true := by simp [hE]
          have HE := hide hE
          clear hE
          go_wp2_with fail
          refine (sum_any s0 s1 s2 s3 s4 _).mono ?_
          rintro e w11 ⟨rfl, b11⟩
          go_wp2_with fail
          obtain ⟨t11, c11, z11⟩ := five_new w11 s0 s1 s2 s3 s4
          generalize w11.alloc (Obj.cells #[.int .u64 s0, .int .u64 s1, .int .u64 s2, .int .u64 s3, .int .u64 s4] 27) = X at *
          have b11' := b11.trans (c11.mono b11.size)
          have qX := q10.below b11'
          have eX := e10.below b11'
          have dX := d10.below b11'
          have BX := B10.trans (b11'.mono B10.size)
          have hq11 : bw < w11.heap.size := (q10.below b11).lt
          have he11 : be < w11.heap.size := (e10.below b11).lt
          have hd11 : bm + 1 < w11.heap.size := (d10.below b11).lt
          have hbt : w.heap.size ≤ w11.heap.size := Nat.le_trans B10.size b11.size
          clear q10 e10 d10 B10 b11 c11 b11' d0 d1 d2 d3 d4
          generalize w11.heap.size = bt at *
          obtain ⟨⟨d0, d1, d2, d3, d4⟩, _⟩ := id dX
          obtain ⟨f0, f1⟩ := id eX
          have o0 := or_int (LD 0) (LD 1)
          have o1 := or_int (LD 2) (LD 3)
          have hlo := word_of_limbs (LD 0) (LD 1)
          have hhi := word_of_limbs (LD 2) (LD 3)
          have lb1 : be < X.heap.size := by omega
          have lb2 : bm + 1 < X.heap.size := by omega
          have nb1 : be ≠ bt := by omega
          have nb2 : bm + 1 ≠ bt := by omega
          have nb3 : bw ≠ bt := by omega
          clear z11
          go_region_held3 (fun w' => w'.cell? ⟨be, 0, none⟩ = some (.int .u64 el) ∧ w'.cell? ⟨be, 1, none⟩ = some (.int .u64 eh) ∧ w'.cell? ⟨bm + 1, 0, none⟩ = some (.int .u64 (E 0)) ∧ w'.cell? ⟨bm + 1, 1, none⟩ = some (.int .u64 (E 1)) ∧ w'.cell? ⟨bm + 1, 2, none⟩ = some (.int .u64 (E 2)) ∧ w'.cell? ⟨bm + 1, 3, none⟩ = some (.int .u64 (E 3))) (go_keep)
            (first
              | (go_at_call 5; refine (element_any _ _ _).mono ?_; rintro e w12 ⟨rfl, b12⟩; have b12' : Below X.heap.size X w12 := below_of (Below.refl _ _).drew b12; obtain ⟨hc12, hf12⟩ := bcell b12'; have z12 := b12'.size; have l121 : be < w12.heap.size := Nat.lt_of_lt_of_le lb1 z12; have l122 : bm + 1 < w12.heap.size := Nat.lt_of_lt_of_le lb2 z12)
              | (go_at_call 7; refine (addProduct_any bt s0 s1 s2 s3 s4 el eh _ _ h0 h1 h2 h3 h4 h5 h6 hlo hhi _ (t11.below b12')).mono ?_; rintro e w13 ⟨rfl, y0', y1', y2', y3', y4', hy', vy', t13, q13⟩; have hc13 := gcell q13))
          obtain ⟨rfl, rfl, rfl, rfl, rfl⟩ := V_inj hx hy' (by rw [unhide vv, unhide vy', val5 E (unhide HE)])
          have B12 := BX.trans (b12'.mono BX.size)
          have B13 : Below w.heap.size w w13 := B12.grown q13 B12.size (fun k hk => by cases hk; exact hbt)
          have q13' := (qX.below b12').grown q13 nb3
          clear hc12 hf12 hc13 b12 b12' q13 qX eX dX BX B12 t11 d0 d1 d2 d3 d4 f0 f1 hE1
          obtain ⟨⟨a0, a1, a2, a3, a4⟩, _⟩ := q13'
          obtain ⟨⟨i0, i1, i2, i3, i4⟩, _⟩ := t13
          go_wp2_with fail
          refine (sameWords_any x0 x1 x2 x3 x4 _).mono ?_
          rintro e w14 ⟨rfl, b14⟩
          go_wp2
          go_ret
          exact ⟨rfl, B13.trans (b14.mono B13.size)⟩
        · have hE1 : (E 4 == 0) = false := by simp [hE]
          clear hE
          go_wp2
          go_ret
          exact ⟨rfl, B10⟩
end Go.Proofs.Qxb6623436a
