/-
  zzBytes_.. (4): where it answers true the slice and every string are short.
-/
import Derived.Test.Qxb6623474aDoorAll
set_option linter.unusedVariables false
namespace Go.Proofs.Qxb6623474aDoor
open Go.RowKit

def ZzOk (n : Nat) (A : Nat → Atom) (e : Ending) : Prop := ∃ r : Bool, e = .returned (.bool r) ∧ (r = true → ∀ i, i < n → (A i).str.size ≤ 1048576)
theorem ZzOk.no (n : Nat) (A : Nat → Atom) : ZzOk n A (.returned (.bool false)) := ⟨false, rfl, fun h => by cases h⟩

set_option maxHeartbeats 1000000 in
set_option maxRecDepth 100000 in
theorem zz_walk (a : Option Addr) (n cap : Nat) (A : Nat → Atom) (w : World) (hp : AtomsAt w a n A) (hn : n ≤ 9223372036854775807) (hV : ∀ i, i < n → (A i).str.size ≤ 9223372036854775807) :
    Calls Tryd.prog 4 #[.slice a n cap] w fun e w' => ZzOk n A e ∧ w' = w := by
  by_cases h2 : (1048576 : Int) < (n : Int)
  · go_enter Tryd.func4, Tryd.ntmps4
    go_wp2
    all_goals (go_ret; exact ⟨ZzOk.no _ _, rfl⟩)
  go_enter Tryd.func4, Tryd.ntmps4
  go_wp2
  go_loop [3, 4] (fun t c => ∃ (k : Nat) (m : Int), k ≤ n ∧ c = .int .i64 k ∧ t = .int .i64 m ∧ 0 ≤ m ∧ m ≤ 1048576 ∧ Hid (∀ i, i < k → (A i).str.size ≤ 1048576)) (fun _ c => n - (intOf c).toNat)
  case atStart => exact ⟨0, _, Nat.zero_le _, rfl, rfl, by omega, by omega, hide fun i hi => absurd hi (Nat.not_lt_zero _)⟩
  case round =>
    obtain ⟨k, m, hk, rfl, rfl, hm0, hm1, hsm⟩ := hrel
    by_cases hlt : k < n
    · rcases hp with hp | ⟨b1, off, rfl, _, hc⟩
      · omega
      obtain ⟨-, -, -, -, -, c1⟩ := hc k hlt
      have x1 := hV k hlt
      clear hc hV
      go_wp2
      iterate 2
        · go_ret
          exact ⟨ZzOk.no _ _, rfl⟩
      · go_round
        case rel =>
          refine ⟨k + 1, _, by omega, by go_num, rfl, by omega, by omega, hide fun i hi => ?_⟩
          by_cases hik : i < k
          · exact unhide hsm i hik
          · have : i = k := by omega
            subst this
            omega
        case measure => simp [intOf]; omega
    · go_wp2
      go_ret
      exact ⟨⟨true, rfl, fun _ i hi => unhide hsm i (by omega)⟩, rfl⟩

end Go.Proofs.Qxb6623474aDoor
