/-
  (*Sum).AddProduct: it writes (s + e*f) mod 2^320 into the receiver's five words.
-/
import Derived.Test.Qxb6623436aBits
import Derived.Below
set_option linter.unusedVariables false
namespace Go.Proofs.Qxb6623436a
open Go.RowKit

/-- Five words lie in block b, and may be written. -/
def Sum5 (w : World) (b : Nat) (x0 x1 x2 x3 x4 : Int) : Prop :=
  (w.cell? ⟨b, 0, none⟩ = some (.int .u64 x0) ∧ w.cell? ⟨b, 1, none⟩ = some (.int .u64 x1) ∧ w.cell? ⟨b, 2, none⟩ = some (.int .u64 x2) ∧ w.cell? ⟨b, 3, none⟩ = some (.int .u64 x3) ∧ w.cell? ⟨b, 4, none⟩ = some (.int .u64 x4)) ∧
  (w.frozen? ⟨b, 0, none⟩ = false ∧ w.frozen? ⟨b, 1, none⟩ = false ∧ w.frozen? ⟨b, 2, none⟩ = false ∧ w.frozen? ⟨b, 3, none⟩ = false ∧ w.frozen? ⟨b, 4, none⟩ = false)

/-- The number that five words say. -/
def V (x0 x1 x2 x3 x4 : Int) : Int := x0 + 18446744073709551616 * x1 + 340282366920938463463374607431768211456 * x2 + 6277101735386680763835789423207666416102355444464034512896 * x3 + 115792089237316195423570985008687907853269984665640564039457584007913129639936 * x4

/-- The four words of a product, put together from the four products of halves. -/
theorem prod4 {el eh fl fh h00 r0 h01 l01 h10 l10 h11 l11 r1a k1 r1 k2 r2a k3 r2 k4 : Int} (h5 : Word el) (h6 : Word eh) (h7 : Word fl) (h8 : Word fh)
    (m : r0 + 18446744073709551616 * h00 = el * fl) (n : l01 + 18446744073709551616 * h01 = el * fh) (o : l10 + 18446744073709551616 * h10 = eh * fl) (p : l11 + 18446744073709551616 * h11 = eh * fh)
    (q : r1a + 18446744073709551616 * k1 = h00 + l01 + 0) (t : r1 + 18446744073709551616 * k2 = r1a + l10 + 0) (u : r2a + 18446744073709551616 * k3 = h01 + h10 + k1) (v : r2 + 18446744073709551616 * k4 = r2a + l11 + k2)
    (wr0 : Word r0) (wr1 : Word r1) (wr2 : Word r2) :
    h11 + k3 + k4 < 18446744073709551616 ∧ V r0 r1 r2 (h11 + k3 + k4) 0 = (el + 18446744073709551616 * eh) * (fl + 18446744073709551616 * fh) := by
  have e : (el + 18446744073709551616 * eh) * (fl + 18446744073709551616 * fh) = el * fl + 18446744073709551616 * (el * fh) + 18446744073709551616 * (eh * fl) + 340282366920938463463374607431768211456 * (eh * fh) := by
    rw [Int.add_mul, Int.mul_add, Int.mul_add]
    have e1 : el * (18446744073709551616 * fh) = 18446744073709551616 * (el * fh) := by rw [Int.mul_left_comm]
    have e2 : 18446744073709551616 * eh * fl = 18446744073709551616 * (eh * fl) := by rw [Int.mul_assoc]
    have e3 : 18446744073709551616 * eh * (18446744073709551616 * fh) = 340282366920938463463374607431768211456 * (eh * fh) := by
      rw [Int.mul_assoc, Int.mul_left_comm eh, ← Int.mul_assoc]
      rfl
    rw [e1, e2, e3]
    omega
  have bound : ∀ a b : Int, Word a → Word b → a * b ≤ 340282366920938463426481119284349108225 := fun a b ha hb => by
    have h : a * b ≤ 18446744073709551615 * 18446744073709551615 := Int.mul_le_mul (by have := ha.2; omega) (by have := hb.2; omega) hb.1 (by omega)
    omega
  have b1 := bound el fl h5 h7
  have b2 := bound el fh h5 h8
  have b3 := bound eh fl h6 h7
  have b4 := bound eh fh h6 h8
  rw [e]
  generalize el * fl = A at *
  generalize el * fh = B at *
  generalize eh * fl = C at *
  generalize eh * fh = D at *
  clear e bound h5 h6 h7 h8
  obtain ⟨x1, x2⟩ := wr0
  obtain ⟨x3, x4⟩ := wr1
  obtain ⟨x5, x6⟩ := wr2
  unfold V
  omega

theorem Sum5.write {w : World} {b : Nat} {s0 s1 s2 s3 s4 : Int} (h : Sum5 w b s0 s1 s2 s3 s4) (x0 x1 x2 x3 x4 : Int) (c c' : Array Value) (t : TypeId) :
    Sum5 (((((((w.setCell ⟨b, 0, none⟩ (.int .u64 x0)).setCell ⟨b, 1, none⟩ (.int .u64 x1)).setCell ⟨b, 2, none⟩ (.int .u64 x2)).setCell ⟨b, 3, none⟩ (.int .u64 x3)).setCell ⟨b, 4, none⟩ (.int .u64 x4)).alloc (.cells c t)).alloc (.cells c' t)) b x0 x1 x2 x3 x4 := by
  obtain ⟨⟨c0, c1, c2, c3, c4⟩, f0, f1, f2, f3, f4⟩ := h
  have hb : b < w.heap.size := World.block_lt_of_cell? w _ c0
  have hb1 : b < w.heap.size + 1 := by omega
  refine ⟨⟨?_, ?_, ?_, ?_, ?_⟩, ?_, ?_, ?_, ?_, ?_⟩ <;> simp [go_sem, *]

theorem grown_set {w w1 : World} {b : Nat} (h : w.grownBy w1 (some b)) (i : Nat) (v : Value) : w.grownBy (w1.setCell ⟨b, i, none⟩ v) (some b) :=
  ⟨h.os, h.tape, h.output, by have := h.size; simpa [World.setCell] using this, fun k hk hne => by
    rw [Below.heap_setCell _ _ _ _ (fun e => hne (by rw [e]))]
    exact h.block k hk hne⟩

theorem grown_alloc {w w1 : World} {b : Option Nat} (h : w.grownBy w1 b) (o : Obj) : w.grownBy (w1.alloc o) b :=
  ⟨h.os, h.tape, h.output, by have := h.size; simp; omega, fun k hk hne => by
    rw [Below.heap_alloc _ _ _ (by have := h.size; omega)]
    exact h.block k hk hne⟩

theorem grown_refl (w : World) (b : Option Nat) : w.grownBy w b := ⟨rfl, rfl, rfl, Nat.le_refl _, fun _ _ _ => rfl⟩

/-- 2^320 -/
def N320 : Int := 2135987035920910082395021706169552114602704522356652769947041607822219725780640550022962086936576

/-- The plain step: five words with a carry through them. -/
theorem addV {s0 s1 s2 s3 s4 r0 r1 r2 r3 x0 x1 x2 x3 k5 k6 k7 k8 : Int} (h4 : Word s4)
    (y : x0 + 18446744073709551616 * k5 = s0 + r0 + 0) (z : x1 + 18446744073709551616 * k6 = s1 + r1 + k5) (a : x2 + 18446744073709551616 * k7 = s2 + r2 + k6) (b : x3 + 18446744073709551616 * k8 = s3 + r3 + k7)
    (w0 : Word x0) (w1 : Word x1) (w2 : Word x2) (w3 : Word x3) : Word (IntKind.u64.wrap (s4 + k8)) ∧ V x0 x1 x2 x3 (IntKind.u64.wrap (s4 + k8)) = (V s0 s1 s2 s3 s4 + V r0 r1 r2 r3 0) % N320 := by
  rw [IntKind.wrap_u64]
  have h : Word ((s4 + k8) % 18446744073709551616) := ⟨by omega, by omega⟩
  refine ⟨h, ?_⟩
  have e : (s4 + k8) % 18446744073709551616 = s4 + k8 - 18446744073709551616 * ((s4 + k8) / 18446744073709551616) := by omega
  obtain ⟨w01, w02⟩ := w0
  obtain ⟨w11, w12⟩ := w1
  obtain ⟨w21, w22⟩ := w2
  obtain ⟨w31, w32⟩ := w3
  obtain ⟨w41, w42⟩ := h
  generalize (s4 + k8) / 18446744073709551616 = q at *
  generalize (s4 + k8) % 18446744073709551616 = x4 at *
  unfold V N320
  omega

/-- THE CONTRACT. -/
def AddP (b : Nat) (s0 s1 s2 s3 s4 E F : Int) (w w' : World) : Prop :=
  ∃ x0 x1 x2 x3 x4 : Int, (Word x0 ∧ Word x1 ∧ Word x2 ∧ Word x3 ∧ Word x4) ∧ Hid (V x0 x1 x2 x3 x4 = (V s0 s1 s2 s3 s4 + E * F) % N320) ∧ Sum5 w' b x0 x1 x2 x3 x4 ∧ w.grownBy w' (some b)

set_option maxHeartbeats 2000000 in
theorem addProduct_any (b : Nat) (s0 s1 s2 s3 s4 el eh fl fh : Int) (h0 : Word s0) (h1 : Word s1) (h2 : Word s2) (h3 : Word s3) (h4 : Word s4) (h5 : Word el) (h6 : Word eh) (h7 : Word fl) (h8 : Word fh)
    (w : World) (hs : Sum5 w b s0 s1 s2 s3 s4) :
    Calls Try.prog 7 #[.pointer (some ⟨b, 0, none⟩), .agg #[.int .u64 el, .int .u64 eh], .agg #[.int .u64 fl, .int .u64 fh]] w fun e w' => e = .returned (.tuple #[]) ∧ AddP b s0 s1 s2 s3 s4 (el + 18446744073709551616 * eh) (fl + 18446744073709551616 * fh) w w' := by
  have hs' := hide hs
  obtain ⟨⟨c0, c1, c2, c3, c4⟩, f0, f1, f2, f3, f4⟩ := hs
  have hb := World.block_lt_of_cell? w _ c0
  go_enter Try.func7, Try.ntmps7
  go_wp2_with fail
  refine (mul64_ex el fl h5 h7 _).mono ?_
  rintro e w1 ⟨h00, r0, rfl, ⟨m1, m2, m3⟩, e1⟩
  cases e1
  go_wp2_with fail
  refine (mul64_ex el fh h5 h8 _).mono ?_
  rintro e w1 ⟨h01, l01, rfl, ⟨n1, n2, n3⟩, e1⟩
  cases e1
  go_wp2_with fail
  refine (mul64_ex eh fl h6 h7 _).mono ?_
  rintro e w1 ⟨h10, l10, rfl, ⟨o1, o2, o3⟩, e1⟩
  cases e1
  go_wp2_with fail
  refine (mul64_ex eh fh h6 h8 _).mono ?_
  rintro e w1 ⟨h11, l11, rfl, ⟨p1, p2, p3⟩, e1⟩
  cases e1
  obtain ⟨r1a, k1, E1, q1, q2, q3, q4⟩ := add64_ex h00 l01 0 m3 n2 (by omega) (by omega)
  obtain ⟨r1, k2, E2, t1, t2, t3, t4⟩ := add64_ex r1a l10 0 q2 o2 (by omega) (by omega)
  obtain ⟨r2a, k3, E3, u1, u2, u3, u4⟩ := add64_ex h01 h10 k1 n3 o3 q3 q4
  obtain ⟨r2, k4, E4, v1, v2, v3, v4⟩ := add64_ex r2a l11 k2 u2 p2 t3 t4
  obtain ⟨g1, g2⟩ := prod4 h5 h6 h7 h8 m1 n1 o1 p1 q1 t1 u1 v1 m2 t2 v2
  have g0 : Word (h11 + k3 + k4) := ⟨by have := p3.1; omega, g1⟩
  have hr3 : IntKind.u64.wrap (IntKind.u64.wrap (h11 + k3) + k4) = h11 + k3 + k4 := by
    rw [IntKind.wrap_u64, IntKind.wrap_u64]; have := p3.1; omega
  have G2 : Hid (V r0 r1 r2 (h11 + k3 + k4) 0 = (el + 18446744073709551616 * eh) * (fl + 18446744073709551616 * fh)) := g2
  clear g1 g2
  generalize h11 + k3 + k4 = r3 at *
  obtain ⟨x0, k5, E5, y1, y2, y3, y4⟩ := add64_ex s0 r0 0 h0 m2 (by omega) (by omega)
  obtain ⟨x1, k6, E6, z1, z2, z3, z4⟩ := add64_ex s1 r1 k5 h1 t2 y3 y4
  obtain ⟨x2, k7, E7, a1, a2, a3, a4⟩ := add64_ex s2 r2 k6 h2 v2 z3 z4
  obtain ⟨x3, k8, E8, b1, b2, b3, b4⟩ := add64_ex s3 r3 k7 h3 g0 a3 a4
  go_wp2_with fail
  go_end0
  obtain ⟨j1, j2⟩ := addV h4 (unhide y1) (unhide z1) (unhide a1) (unhide b1) y2 z2 a2 b2
  rw [unhide G2] at j2
  exact ⟨rfl, x0, x1, x2, x3, _, ⟨y2, z2, a2, b2, j1⟩, hide j2, (unhide hs').write _ _ _ _ _ _ _ _, grown_alloc (grown_alloc (grown_set (grown_set (grown_set (grown_set (grown_set (grown_refl _ _) _ _) _ _) _ _) _ _) _ _) _) _⟩
end Go.Proofs.Qxb6623436a
