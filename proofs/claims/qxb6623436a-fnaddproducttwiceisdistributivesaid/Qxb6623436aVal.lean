/-
  Numbers in 32-bit limbs. No Go in sight.
-/
import Derived.Below
set_option linter.unusedVariables false
namespace Go.Proofs.Qxb6623436a

/-- 2^(32 k) -/
def pw : Nat → Int
  | 0 => 1
  | k + 1 => 4294967296 * pw k

/-- What the limbs f 0 .. f (n-1) say. -/
def val (f : Nat → Int) : Nat → Int
  | 0 => 0
  | n + 1 => val f n + f n * pw n

/-- f with the limb k put anew. -/
def upd (f : Nat → Int) (k : Nat) (v : Int) : Nat → Int := fun j => if j = k then v else f j

theorem val_congr {f g : Nat → Int} : ∀ n, (∀ k, k < n → f k = g k) → val f n = val g n
  | 0, _ => rfl
  | n + 1, h => by rw [val, val, val_congr n (fun k hk => h k (by omega)), h n (by omega)]

theorem val_upd (f : Nat → Int) (k : Nat) (v : Int) : ∀ n, k < n → val (upd f k v) n = val f n + (v - f k) * pw k
  | 0, h => by omega
  | n + 1, h => by
    by_cases e : k = n
    · subst e
      have : val (upd f k v) k = val f k := val_congr k (fun j hj => by simp [upd]; intro e; omega)
      rw [val, val, this]
      simp only [upd, if_true, Int.sub_mul]
      omega
    · have hu : upd f k v n = f n := by unfold upd; rw [if_neg (by omega)]
      rw [val, val, val_upd f k v n (by omega), hu]
      omega

theorem pw_add (i j : Nat) : pw (i + j) = pw i * pw j := by
  induction j with
  | zero => simp [pw]
  | succ j ih => rw [show i + (j + 1) = (i + j) + 1 by omega, pw, pw, ih, Int.mul_left_comm]

/-- One step of the school method. -/
theorem mul_step {S p p' c c' a b X L : Int} (h : p' + 4294967296 * c' = a * b + p + c) (hS : S + c * X = L) : (S + (p' - p) * X) + c' * (4294967296 * X) = L + a * (b * X) := by
  have h2 : (p' + 4294967296 * c') * X = (a * b + p + c) * X := by rw [h]
  simp only [Int.add_mul, Int.sub_mul, Int.mul_assoc] at *
  have : c' * (4294967296 * X) = 4294967296 * (c' * X) := by rw [Int.mul_left_comm]
  omega

theorem val_succ (f : Nat → Int) (n : Nat) : val f (n + 1) = val f n + f n * pw n := rfl
theorem pw_succ (n : Nat) : pw (n + 1) = 4294967296 * pw n := rfl

/-- The inner loop's step. -/
theorem inner_val {A B Q : Nat → Int} {i j : Nat} {c : Int} (hij : i + j < 10) (h : val Q 10 + c * pw (i + j) = val A i * val B 5 + A i * (pw i * val B j)) :
    val (upd Q (i + j) ((A i * B j + Q (i + j) + c) % 4294967296)) 10 + (A i * B j + Q (i + j) + c) / 4294967296 * pw (i + (j + 1)) = val A i * val B 5 + A i * (pw i * val B (j + 1)) := by
  rw [val_upd _ _ _ _ hij, show i + (j + 1) = (i + j) + 1 by omega, pw_succ, val_succ B j]
  have hst := mul_step (S := val Q 10) (p := Q (i + j)) (p' := (A i * B j + Q (i + j) + c) % 4294967296) (c := c) (c' := (A i * B j + Q (i + j) + c) / 4294967296) (a := A i) (b := B j) (X := pw (i + j)) (by omega) h
  rw [hst, Int.mul_add (pw i), Int.mul_add (A i), Int.mul_left_comm (pw i) (B j), ← pw_add]
  omega

/-- The outer loop's step. -/
theorem outer_val {A B Q : Nat → Int} {i : Nat} {c : Int} (hi : i < 4) (hz : Q (i + 5) = 0) (h : val Q 10 + c * pw (i + 5) = val A i * val B 5 + A i * (pw i * val B 5)) :
    val (upd Q (i + 5) c) 10 = val A (i + 1) * val B 5 := by
  rw [val_upd _ _ _ _ (by omega), hz, Int.sub_zero, h, val_succ A i, Int.add_mul, Int.mul_assoc]

/-- The last loop's step. -/
theorem last_val {S P : Nat → Int} {k : Nat} {c V0 : Int} (hk : k < 10) (h : val S 10 + c * pw k = V0 + val P k) :
    val (upd S k ((S k + P k + c) % 4294967296)) 10 + (S k + P k + c) / 4294967296 * pw (k + 1) = V0 + val P (k + 1) := by
  rw [val_upd _ _ _ _ hk, pw_succ, val_succ P k]
  have hst := mul_step (S := val S 10) (p := S k) (p' := (S k + P k + c) % 4294967296) (c := c) (c' := (S k + P k + c) / 4294967296) (a := P k) (b := 1) (X := pw k) (by omega) h
  rw [hst, Int.one_mul]
  omega
end Go.Proofs.Qxb6623436a
