/-
  math/bits.Add64, math/bits.Mul64 at this dump: what they answer, under names of their own.
-/
import Derived.Test.Qxb6623436aRows
import Derived.WalkKit
import Derived.WalkSpells
import Derived.WalkLawsBesides
import Derived.Laws.Externs
import Derived.Laws.Bits64b
import Derived.Lib.Mul64
import Derived.KernelRfl
set_option linter.unusedVariables false
namespace Go.Proofs.Qxb6623436a
open Go.RowKit

theorem hide {p : Prop} (h : p) : Hid p := h
theorem unhide {p : Prop} (h : Hid p) : p := h

/-- A word. -/
def Word (x : Int) : Prop := 0 ≤ x ∧ x < 18446744073709551616

/-- Sum and carry of two words and a carry; high and low word of a product. -/
def addS (x y c : Int) : Int := (x + y + c) % 18446744073709551616
def addC (x y c : Int) : Int := (x + y + c) / 18446744073709551616
def mulH (x y : Int) : Int := x * y / 18446744073709551616
def mulL (x y : Int) : Int := x * y % 18446744073709551616

theorem add_facts (x y c : Int) (hx : Word x) (hy : Word y) (hc0 : 0 ≤ c) (hc : c ≤ 1) : addS x y c + 18446744073709551616 * addC x y c = x + y + c ∧ Word (addS x y c) ∧ 0 ≤ addC x y c ∧ addC x y c ≤ 1 := by
  obtain ⟨h1, h2⟩ := hx
  obtain ⟨h3, h4⟩ := hy
  unfold addS addC Word
  omega

theorem mul_facts (x y : Int) (hx : Word x) (hy : Word y) : mulL x y + 18446744073709551616 * mulH x y = x * y ∧ Word (mulL x y) ∧ Word (mulH x y) := by
  obtain ⟨h1, h2⟩ := hx
  obtain ⟨h3, h4⟩ := hy
  have b : x * y ≤ 18446744073709551615 * 18446744073709551615 := Int.mul_le_mul (by omega) (by omega) h3 (by omega)
  have b0 : 0 ≤ x * y := Int.mul_nonneg h1 h3
  unfold mulL mulH Word
  generalize x * y = p at *
  omega

theorem add64 (x y c : Int) (hx : 0 ≤ x) (hy : 0 ≤ y) (hc0 : 0 ≤ c) (hc : c ≤ 1) (w : World) :
    (callFunc 12 #[.int .u64 x, .int .u64 y, .int .u64 c]).run Try.prog w = .ok (.value (.tuple #[.int .u64 (addS x y c), .int .u64 (addC x y c)])) w := by
  rw [run_callFunc_extern Try.func12 (by kernel_rfl) (by kernel_rfl) (by kernel_rfl) (e := add64Entry) (by kernel_rfl), run_add64 x y c hx hy hc0 hc]
  rfl

theorem maskN (a : Nat) (ha : a < 18446744073709551616) : bits .and .u64 (a : Int) 4294967295 = ((a % 4294967296 : Nat) : Int) := by
  have h := bits_and_u64_nat a 4294967295 ha (by omega)
  have e : a &&& 4294967295 = a % 4294967296 := Nat.and_two_pow_sub_one_eq_mod a 32
  rw [e] at h
  exact h
theorem divN (a : Nat) : (a : Int) / 4294967296 = ((a / 4294967296 : Nat) : Int) := by omega
theorem mulN (a b : Nat) : (a : Int) * (b : Int) = ((a * b : Nat) : Int) := (Int.natCast_mul a b).symm
theorem addN (a b : Nat) : (a : Int) + (b : Int) = ((a + b : Nat) : Int) := (Int.natCast_add a b).symm
theorem wrapN (a : Nat) (ha : a < 18446744073709551616) : IntKind.u64.wrap (a : Int) = (a : Int) := by rw [IntKind.wrap_u64]; omega
theorem wrapM (a : Nat) : IntKind.u64.wrap (a : Int) = ((a % 18446744073709551616 : Nat) : Int) := by rw [IntKind.wrap_u64]; omega

set_option maxHeartbeats 1000000 in
theorem mul64_nat (x y : Nat) (hx : x < 18446744073709551616) (hy : y < 18446744073709551616) (w : World) :
    Calls Try.prog 11 #[.int .u64 x, .int .u64 y] w fun e w' => e = .returned (.tuple #[.int .u64 ((x * y / 18446744073709551616 : Nat) : Int), .int .u64 ((x * y % 18446744073709551616 : Nat) : Int)]) ∧ w' = w := by
  obtain ⟨bd, bt, bw, hhi⟩ := Lib.mul64_hi x y hx hy
  have ba := Lib.half_mul_le (a := x / 4294967296) (b := y / 4294967296) (by omega) (by omega)
  have bb := Lib.half_mul_le (a := x / 4294967296) (b := y % 4294967296) (by omega) (by omega)
  have bc := Lib.half_mul_le (a := x % 4294967296) (b := y / 4294967296) (by omega) (by omega)
  have ba' : x / 4294967296 * (y / 4294967296) < 18446744073709551616 := by omega
  have bb' : x / 4294967296 * (y % 4294967296) < 18446744073709551616 := by omega
  have bc' : x % 4294967296 * (y / 4294967296) < 18446744073709551616 := by omega
  have bh1 : x / 4294967296 * (y / 4294967296) + (x / 4294967296 * (y % 4294967296) + x % 4294967296 * (y % 4294967296) / 4294967296) / 4294967296 < 18446744073709551616 := by omega
  have bh : x / 4294967296 * (y / 4294967296) + (x / 4294967296 * (y % 4294967296) + x % 4294967296 * (y % 4294967296) / 4294967296) / 4294967296 + ((x / 4294967296 * (y % 4294967296) + x % 4294967296 * (y % 4294967296) / 4294967296) % 4294967296 + x % 4294967296 * (y / 4294967296)) / 4294967296 < 18446744073709551616 := by omega
  go_enter Try.func11, Try.ntmps11
  go_wp2
  simp only [maskN x hx, maskN y hy, divN, mulN, addN, wrapN _ bd, wrapN _ bb', wrapN _ bt, maskN _ bt, wrapN _ bc', wrapN _ bw, wrapN _ ba', wrapN _ bh1, wrapN _ bh, wrapM (x * y)]
  rw [hhi]
  go_ret2
  exact ⟨rfl, rfl⟩

theorem mul64_any (x y : Int) (hx : Word x) (hy : Word y) (w : World) :
    Calls Try.prog 11 #[.int .u64 x, .int .u64 y] w fun e w' => e = .returned (.tuple #[.int .u64 (mulH x y), .int .u64 (mulL x y)]) ∧ w' = w := by
  obtain ⟨h1, h2⟩ := hx
  obtain ⟨h3, h4⟩ := hy
  obtain ⟨x, rfl⟩ := Int.eq_ofNat_of_zero_le h1
  obtain ⟨y, rfl⟩ := Int.eq_ofNat_of_zero_le h3
  exact mul64_nat x y (by omega) (by omega) w

/-- The same, each answer a letter. -/
theorem mul64_ex (x y : Int) (hx : Word x) (hy : Word y) (w : World) :
    Calls Try.prog 11 #[.int .u64 x, .int .u64 y] w fun e w' => ∃ h l : Int, e = .returned (.tuple #[.int .u64 h, .int .u64 l]) ∧ (Hid (l + 18446744073709551616 * h = x * y) ∧ Word l ∧ Word h) ∧ w' = w :=
  (mul64_any x y hx hy w).mono fun _ _ ⟨he, hw⟩ => ⟨_, _, he, mul_facts x y hx hy, hw⟩

theorem add64_ex (x y c : Int) (hx : Word x) (hy : Word y) (hc0 : 0 ≤ c) (hc : c ≤ 1) :
    ∃ s k : Int, (∀ w, (callFunc 12 #[.int .u64 x, .int .u64 y, .int .u64 c]).run Try.prog w = .ok (.value (.tuple #[.int .u64 s, .int .u64 k])) w) ∧ Hid (s + 18446744073709551616 * k = x + y + c) ∧ Word s ∧ 0 ≤ k ∧ k ≤ 1 :=
  ⟨_, _, fun w => add64 x y c hx.1 hy.1 hc0 hc w, add_facts x y c hx hy hc0 hc⟩
end Go.Proofs.Qxb6623436a
