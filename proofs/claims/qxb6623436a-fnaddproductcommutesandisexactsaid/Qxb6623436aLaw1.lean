/-
  FnAddProductCommutesAndIsExact: the walk, out of the contracts.
-/
import Derived.Test.Qxb6623436aSmall
import Derived.Deep.RegionHeld3
import Derived.Deep.DrawnRows
set_option linter.unusedVariables false
namespace Go.Proofs.Qxb6623436a
open Go.RowKit
attribute [local go_sem ↓] Go.wp_at_zero Go.wp_at_succ

set_option maxRecDepth 100000 in
set_option maxHeartbeats 4000000 in
theorem law1 (s0 s1 s2 s3 s4 el eh fl fh : Int) (h0 : Word s0) (h1 : Word s1) (h2 : Word s2) (h3 : Word s3) (h4 : Word s4) (h5 : Word el) (h6 : Word eh) (h7 : Word fl) (h8 : Word fh) (w : World) :
    Calls Try.prog 3 #[.int .u64 s0, .int .u64 s1, .int .u64 s2, .int .u64 s3, .int .u64 s4, .int .u64 el, .int .u64 eh, .int .u64 fl, .int .u64 fh] w fun e w' => e = .returned (.bool true) ∧ Below w.heap.size w w' := by
  go_enter Try.func3, Try.ntmps3
  go_wp2_with fail
  refine (element_any el eh _).mono ?_
  rintro e w1 ⟨rfl, hb1⟩
  go_wp2_with fail
  obtain ⟨e1, b1, z1⟩ := two_new w1 el eh
  have hz1 := hb1.size
  have B1 := hb1.trans (b1.mono hz1)
  generalize w1.alloc (Obj.cells #[.int .u64 el, .int .u64 eh] 24) = W1 at *
  clear hb1 b1
  generalize w1.heap.size = be at *
  refine (element_any fl fh _).mono ?_
  rintro e w2 ⟨rfl, hb2⟩
  go_wp2_with fail
  obtain ⟨f2, b2, z2⟩ := two_new w2 fl fh
  have hz2 := hb2.size
  have b2' := hb2.trans (b2.mono hz2)
  have e2 := e1.below b2'
  have B2 := B1.trans (b2'.mono B1.size)
  generalize w2.alloc (Obj.cells #[.int .u64 fl, .int .u64 fh] 24) = W2 at *
  clear hb2 b2 b2' e1 B1
  generalize w2.heap.size = bf at *
  refine (sum_any s0 s1 s2 s3 s4 _).mono ?_
  rintro e w3 ⟨rfl, hb3⟩
  go_wp2_with fail
  obtain ⟨s3', b3, z3⟩ := five_new w3 s0 s1 s2 s3 s4
  have hz3 := hb3.size
  have b3' := hb3.trans (b3.mono hz3)
  have e3 := e2.below b3'
  have f3 := f2.below b3'
  have B3 := B2.trans (b3'.mono B2.size)
  generalize w3.alloc (Obj.cells #[.int .u64 s0, .int .u64 s1, .int .u64 s2, .int .u64 s3, .int .u64 s4] 27) = W3 at *
  clear hb3 b3 b3' e2 f2 B2
  generalize w3.heap.size = bs at *
  refine (sum_any s0 s1 s2 s3 s4 _).mono ?_
  rintro e w4 ⟨rfl, hb4⟩
  obtain ⟨t4, b4, z4⟩ := five_new w4 s0 s1 s2 s3 s4
  have hz4 := hb4.size
  have b4' := hb4.trans (b4.mono hz4)
  have e4 := e3.below b4'
  have f4 := f3.below b4'
  have s4' := s3'.below b4'
  have B4 := B3.trans (b4'.mono B3.size)
  obtain ⟨e40, e41⟩ := e3.below hb4
  obtain ⟨f40, f41⟩ := f3.below hb4
  have le := (e3.below hb4).lt
  have lf := (f3.below hb4).lt
  clear e3 f3 s3' B3
  go_wp2_with fail
  clear e40 e41 f40 f41
  generalize w4.alloc (Obj.cells #[.int .u64 s0, .int .u64 s1, .int .u64 s2, .int .u64 s3, .int .u64 s4] 27) = W4 at *
  clear hb4 b4 b4'
  generalize w4.heap.size = bt at *
  refine (addProduct_any bs s0 s1 s2 s3 s4 el eh fl fh h0 h1 h2 h3 h4 h5 h6 h7 h8 _ s4').mono ?_
  rintro e w5 ⟨rfl, x0, x1, x2, x3, x4, hx, vx, s5, g5⟩
  have nes : be ≠ bs := by omega
  have nfs : bf ≠ bs := by omega
  have nts : bt ≠ bs := by omega
  have e5 := e4.grown g5 nes
  have f5 := f4.grown g5 nfs
  have t5 := t4.grown g5 nts
  have z5 := g5.size
  have B5 : Below w.heap.size w w5 := B4.grown g5 B4.size (fun k hk => by cases hk; omega)
  clear e4 f4 t4 s4' B4 g5
  obtain ⟨e50, e51⟩ := e5
  obtain ⟨f50, f51⟩ := f5
  go_wp2_with fail
  refine (addProduct_any bt s0 s1 s2 s3 s4 fl fh el eh h0 h1 h2 h3 h4 h7 h8 h5 h6 _ t5).mono ?_
  rintro e w6 ⟨rfl, y0, y1, y2, y3, y4, hy, vy, t6, g6⟩
  have s6 := s5.grown g6 (Ne.symm nts)
  have z6 := g6.size
  have B6 : Below w.heap.size w w6 := B5.grown g6 B5.size (fun k hk => by cases hk; omega)
  clear e50 e51 f50 f51 t5 s5 g6 B5
  go_wp2_with fail
  refine (limbs_any fl fh h7 h8 _).mono ?_
  rintro e w7 ⟨rfl, b7⟩
  have s7 := s6.below b7
  have t7 := t6.below b7
  have B7 := B6.trans (b7.mono B6.size)
  clear s6 t6 b7 B6
  go_wp2_with fail
  obtain ⟨rfl, rfl, rfl, rfl, rfl⟩ := V_inj hx hy (by rw [unhide vx, unhide vy, Int.mul_comm])
  have l7 : (w7.alloc (Obj.cells #[.int .u64 (fl % 4294967296), .int .u64 (fl / 4294967296), .int .u64 (fh % 4294967296), .int .u64 (fh / 4294967296)] 30)).heap[w7.heap.size]? = some (.cells #[.int .u64 (fl % 4294967296), .int .u64 (fl / 4294967296), .int .u64 (fh % 4294967296), .int .u64 (fh / 4294967296)] 30 (0, 0)) := heap_alloc_new w7 _
  have b7' : Below w7.heap.size w7 (w7.alloc (Obj.cells #[.int .u64 (fl % 4294967296), .int .u64 (fl / 4294967296), .int .u64 (fh % 4294967296), .int .u64 (fh / 4294967296)] 30)) := (Below.refl _ _).alloc (Nat.le_refl _) _
  have z7 : (w7.alloc (Obj.cells #[.int .u64 (fl % 4294967296), .int .u64 (fl / 4294967296), .int .u64 (fh % 4294967296), .int .u64 (fh / 4294967296)] 30)).heap.size = w7.heap.size + 1 := by simp
  generalize w7.alloc (Obj.cells #[.int .u64 (fl % 4294967296), .int .u64 (fl / 4294967296), .int .u64 (fh % 4294967296), .int .u64 (fh / 4294967296)] 30) = W7 at *
  have s7' := s7.below b7'
  have t7' := t7.below b7'
  have B7' := B7.trans (b7'.mono B7.size)
  have ls := s7'.lt
  have lt := t7'.lt
  clear s7 t7 B7 b7' vy hy
  have lb : w7.heap.size < W7.heap.size := by omega
  generalize w7.heap.size = bl at *
  have d0 := cell_of_blk (k := 0) l7 rfl
  have d1 := cell_of_blk (k := 1) l7 rfl
  have d2 := cell_of_blk (k := 2) l7 rfl
  have d3 := cell_of_blk (k := 3) l7 rfl
  obtain ⟨⟨a0, a1, a2, a3, a4⟩, _⟩ := s7'
  obtain ⟨⟨c0, c1, c2, c3, c4⟩, _⟩ := t7'
  have Hz := hide (And.intro z7 B7')
  clear z1 z2 z3 z4 hz1 hz2 hz3 hz4 z5 z6 z7 B7' l7 le lf
  have n71 : W7.heap.size ≠ bl := by omega
  have n72 : W7.heap.size ≠ bs := by omega
  have n73 : W7.heap.size ≠ bt := by omega
  go_region_held3 (fun w' => w'.cell? ⟨bl, 0, none⟩ = some (.int .u64 (fl % 4294967296)) ∧ w'.cell? ⟨bl, 1, none⟩ = some (.int .u64 (fl / 4294967296)) ∧ w'.cell? ⟨bl, 2, none⟩ = some (.int .u64 (fh % 4294967296)) ∧ w'.cell? ⟨bl, 3, none⟩ = some (.int .u64 (fh / 4294967296))) (go_keep)
    (first
      | (go_at_call 8; refine (limbs_any el eh h5 h6 _).mono ?_; rintro e w8 ⟨rfl, b8⟩; have b8' : Below W7.heap.size W7 w8 := below_of (by first | exact (Below.refl _ _).drew | exact ((Below.refl _ _).alloc (Nat.le_refl _) _).drew) b8; obtain ⟨hc8, hf8⟩ := bcell b8'; obtain ⟨hd8, hg8⟩ := bcell b8; have z8 := b8'.size; (try (have hz8 := want_zero b8; obtain ⟨p80, ⟨p81, p82, p83, p84, p85⟩, p86, p87, p88, p89, p90⟩ := hz8)); have l81 : bl < w8.heap.size := (by omega); have l82 : bs < w8.heap.size := (by omega); have l83 : bt < w8.heap.size := (by omega); have n81 : w8.heap.size ≠ bl := (by omega); have n82 : w8.heap.size ≠ bs := (by omega); have n83 : w8.heap.size ≠ bt := (by omega))
      | (go_at_call 9; refine (model_lim s0 s1 s2 s3 s4 el eh fl fh 0 h0 h1 h2 h3 h4 h5 h6 h7 h8 ⟨by omega, by omega⟩ _).mono ?_; rintro e w9 ⟨v0, v1, v2, v3, v4, rfl, hv, vv, b9⟩; have b9' : Below w8.heap.size w8 w9 := below_of (by first | exact Below.refl _ _ | exact (Below.refl _ _).alloc (Nat.le_refl _) _) b9; obtain ⟨hc9, hf9⟩ := bcell b9'; obtain ⟨hd9, hg9⟩ := bcell b9; have z9 := b9'.size; have y9 := b9.size; (try simp [Nat.add_one_le_iff] at y9); (try (have l98 := Nat.lt_of_lt_of_le p80 z9));  have l91 : bl < w9.heap.size := (by omega); have l92 : bs < w9.heap.size := (by omega); have l93 : bt < w9.heap.size := (by omega)))
  all_goals
    obtain ⟨rfl, rfl, rfl, rfl, rfl⟩ := V_inj hx hv (by rw [unhide vx, unhide vv, Int.mul_zero, Int.add_zero])
    have B9 : Below w.heap.size w w9 := (unhide Hz).2.trans ((b8'.trans (b9'.mono z8)).mono (unhide Hz).2.size)
    have hw9 := B9.size
    have hw7 := (unhide Hz).2.size
    clear b8 b8' b9 b9' hd8 hg8 vx vv hv hx
    go_wp2_with fail
    refine (sameWords_any x0 x1 x2 x3 x4 _).mono ?_
    rintro e w10 ⟨rfl, b10⟩
    obtain ⟨hc10, hf10⟩ := bcell b10
    go_wp2_with fail
    refine (sameWords_any x0 x1 x2 x3 x4 _).mono ?_
    rintro e w11 ⟨rfl, b11⟩
    go_wp2
    go_ret
    have hz10 := b10.size
    refine ⟨rfl, Below.trans (Below.trans ?_ (b10.mono ?_)) (b11.mono ?_)⟩
    · first
        | exact B9.alloc hw9 _
        | exact ((((B9.setCell (p := ⟨W7.heap.size, 0, none⟩) hw7 _).setCell (p := ⟨W7.heap.size, 1, none⟩) hw7 _).setCell (p := ⟨W7.heap.size, 2, none⟩) hw7 _).setCell (p := ⟨W7.heap.size, 3, none⟩) hw7 _).setCell (p := ⟨W7.heap.size, 4, none⟩) hw7 _
        | exact ((((B9.setCell (p := ⟨w8.heap.size, 0, none⟩) (Nat.le_trans hw7 z8) _).setCell (p := ⟨w8.heap.size, 1, none⟩) (Nat.le_trans hw7 z8) _).setCell (p := ⟨w8.heap.size, 2, none⟩) (Nat.le_trans hw7 z8) _).setCell (p := ⟨w8.heap.size, 3, none⟩) (Nat.le_trans hw7 z8) _).setCell (p := ⟨w8.heap.size, 4, none⟩) (Nat.le_trans hw7 z8) _
    · simp [World.setCell]; omega
    · simp [World.setCell] at hz10; omega
end Go.Proofs.Qxb6623436a
