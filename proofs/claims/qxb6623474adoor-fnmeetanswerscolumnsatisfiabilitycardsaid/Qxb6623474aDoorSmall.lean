/-
  The small functions of types: Compare (12), numeric (30), fits (31), Next (25), at numbers.
-/
import Derived.Test.Qxb6623474aDoorKey
import Derived.WalkArith
set_option linter.unusedVariables false
namespace Go.Proofs.Qxb6623474aDoor
open Go.RowKit

/-- A number as a value. -/
abbrev vv (ty n : Int) (s : ByteArray) : Value := .agg #[.int .u8 ty, .bool false, .int .i64 n, .string s]

def cmp (a b : Int) : Int := if a < b then -1 else if b < a then 1 else 0

set_option maxHeartbeats 1000000 in
set_option maxRecDepth 100000 in
theorem compare_walk (ty n : Int) (s : ByteArray) (ty' n' : Int) (s' : ByteArray) (w : World) (hty : ty = 2 ∨ ty = 3) :
    Calls Tryd.prog 12 #[vv ty n s, vv ty' n' s'] w fun e w' => e = .returned (.int .i64 (cmp n n')) ∧ Below w.heap.size w w' := by
  have hb : ∀ (o o' : Obj), Below w.heap.size w ((w.alloc o).alloc o') := fun o o' => ((Below.refl _ _).alloc (Nat.le_refl _) _).alloc (by simp) _
  rcases Int.lt_trichotomy n n' with h | h | h
  · have hc : cmp n n' = -1 := by simp [cmp, h]
    have h2 : ¬ n' < n := by omega
    rw [hc]
    go_enter Tryd.func12, Tryd.ntmps12
    go_wp2_with (go_at_call 18; refine (held_walk ty _ hty).mono ?_; rintro e w' ⟨rfl, rfl⟩)
    go_ret
    exact ⟨rfl, hb _ _⟩
  · subst h
    have hc : cmp n n = 0 := by simp [cmp]
    rw [hc]
    go_enter Tryd.func12, Tryd.ntmps12
    go_wp2_with (go_at_call 18; refine (held_walk ty _ hty).mono ?_; rintro e w' ⟨rfl, rfl⟩)
    go_ret
    exact ⟨rfl, hb _ _⟩
  · have h2 : ¬ n < n' := by omega
    have hc : cmp n n' = 1 := by simp [cmp, h, h2]
    rw [hc]
    go_enter Tryd.func12, Tryd.ntmps12
    go_wp2_with (go_at_call 18; refine (held_walk ty _ hty).mono ?_; rintro e w' ⟨rfl, rfl⟩)
    go_ret
    exact ⟨rfl, hb _ _⟩

set_option maxRecDepth 100000 in
theorem numeric_walk (ty : Int) (w : World) (hty : ty = 2 ∨ ty = 3) : Calls Tryd.prog 30 #[.int .u8 ty] w fun e w' => e = .returned (.bool true) ∧ w' = w := by
  rcases hty with rfl | rfl <;>
  · go_enter Tryd.func30, Tryd.ntmps30
    go_wp2
    go_ret
    exact ⟨rfl, rfl⟩

def SomeBool (e : Ending) : Prop := ∃ r : Bool, e = .returned (.bool r)

set_option maxRecDepth 100000 in
theorem fits_walk (ty n : Int) (w : World) (hty : ty = 2 ∨ ty = 3) : Calls Tryd.prog 31 #[.int .u8 ty, .int .i64 n] w fun e w' => SomeBool e ∧ w' = w := by
  rcases hty with rfl | rfl <;>
  · go_enter Tryd.func31, Tryd.ntmps31
    go_wp2
    go_ret
    exact ⟨⟨_, rfl⟩, rfl⟩

set_option maxHeartbeats 1000000 in
set_option maxRecDepth 100000 in
theorem next_walk (ty n : Int) (s : ByteArray) (d : Int) (w : World) (hty : ty = 2 ∨ ty = 3) (hd : d = 1 ∨ d = -1) (h0 : -9223372036854775806 ≤ n) (h1 : n ≤ 9223372036854775805) :
    Calls Tryd.prog 25 #[vv ty n s, .int .i64 d] w fun e w' => (∃ ty', (ty' = 2 ∨ ty' = 3) ∧ e = .returned (.tuple #[vv ty' (n + d) s, .bool true])) ∧ Below w.heap.size w w' := by
  have a1 : wrap64 (n + 1) = n + 1 := by unfold wrap64; omega
  have a2 : wrap64 (n + -1) = n + -1 := by unfold wrap64; omega
  have g1 : n < n + 1 := by omega
  have g2 : ¬ (n < n + -1) := by omega
  have hb : ∀ (o o' : Obj), Below w.heap.size w ((w.alloc o).alloc o') := fun o o' => ((Below.refl _ _).alloc (Nat.le_refl _) _).alloc (by simp) _
  rcases hd with rfl | rfl
  · go_enter Tryd.func25, Tryd.ntmps25
    go_wp2_with (first
      | (go_at_call 30; refine (numeric_walk ty _ hty).mono ?_; rintro e w' ⟨rfl, rfl⟩)
      | (go_at_call 31; refine (fits_walk ty _ _ hty).mono ?_; rintro e w' ⟨⟨r, rfl⟩, rfl⟩; cases r))
    · exact bodyPost_ret (v := .tuple #[vv 3 (n + 1) s, .bool true]) (by simp [results, Tryd.results25, go_sem]) rfl ⟨⟨3, .inr rfl, rfl⟩, hb _ _⟩
    · exact bodyPost_ret (v := .tuple #[vv ty (n + 1) s, .bool true]) (by simp [results, Tryd.results25, go_sem]) rfl ⟨⟨ty, hty, rfl⟩, hb _ _⟩
  · go_enter Tryd.func25, Tryd.ntmps25
    go_wp2_with (first
      | (go_at_call 30; refine (numeric_walk ty _ hty).mono ?_; rintro e w' ⟨rfl, rfl⟩)
      | (go_at_call 31; refine (fits_walk ty _ _ hty).mono ?_; rintro e w' ⟨⟨r, rfl⟩, rfl⟩; cases r))
    · exact bodyPost_ret (v := .tuple #[vv 3 (n + -1) s, .bool true]) (by simp [results, Tryd.results25, go_sem]) rfl ⟨⟨3, .inr rfl, rfl⟩, hb _ _⟩
    · exact bodyPost_ret (v := .tuple #[vv ty (n + -1) s, .bool true]) (by simp [results, Tryd.results25, go_sem]) rfl ⟨⟨ty, hty, rfl⟩, hb _ _⟩

end Go.Proofs.Qxb6623474aDoor
