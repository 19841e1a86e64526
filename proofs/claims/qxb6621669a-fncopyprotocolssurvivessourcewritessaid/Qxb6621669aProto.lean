/-
  protoBytes: it reads and computes; what it lets through has small lengths.
-/
import Derived.Test.Qxb6621669aRows
import Derived.Test.Qxb6621669aMem
import Derived.WalkKit
import Derived.WalkSpells
import Derived.WalkLawsBesides
namespace Go.Proofs.Qxb6621669a
open Go.RowKit

set_option maxHeartbeats 1000000 in
theorem protoBytes_any (a : Option Addr) (cap : Nat) (p : PV) (u : Int) (w : World) (hp : ListAt 0 w a p) (hf : p.fits) (hu : 0 ≤ u) (hu2 : u ≤ 1048577) :
    Calls Try.prog 11 #[.slice a p.len cap, .int .i64 u] w fun e w' => (∃ n : Int, e = .returned (.int .i64 n) ∧ 0 ≤ n ∧ n ≤ 1048577 ∧ (n ≤ 1048576 → u ≤ 1048576 ∧ p.small)) ∧ w' = w := by
  obtain ⟨hf1, hf2⟩ := hf
  by_cases h1 : 1048552 < u
  · go_enter Try.func11, Try.ntmps11
    go_wp2
    go_ret
    exact ⟨⟨_, rfl, by omega, by omega, by omega⟩, rfl⟩
  by_cases h2 : (65536 : Int) < (p.len : Int)
  · go_enter Try.func11, Try.ntmps11
    go_wp2
    go_ret
    exact ⟨⟨_, rfl, by omega, by omega, by omega⟩, rfl⟩
  go_enter Try.func11, Try.ntmps11
  go_wp2
  go_loop [1, 5, 17] (fun s _ c => ∃ (k : Nat) (n : Int), k ≤ p.len ∧ c = .int .i64 k ∧ s = .int .i64 n ∧ 0 ≤ n ∧ n ≤ 1048576 ∧ ∀ i, i < k → (p.nm i).size ≤ 1048576 ∧ p.ml i ≤ 1048576) (fun _ _ c => p.len - (intOf c).toNat)
  case atStart => exact ⟨0, _, Nat.zero_le _, rfl, rfl, by omega, by omega, fun i hi => absurd hi (Nat.not_lt_zero _)⟩
  case round =>
    obtain ⟨k, n, hk, rfl, rfl, hn0, hn1, hsm⟩ := hrel
    by_cases hlt : k < p.len
    · rcases hp with hp | ⟨b, off, rfl, _, _, A, C, hc⟩
      · omega
      obtain ⟨c1, c2, _⟩ := hc k hlt
      obtain ⟨b1, b2⟩ := hf2 k hlt
      clear hc hf2
      have Hs : Hid (∀ i, i < k → (p.nm i).size ≤ 1048576 ∧ p.ml i ≤ 1048576) := hsm
      clear hsm
      go_wp2
      · go_ret
        exact ⟨⟨_, rfl, by omega, by omega, by omega⟩, rfl⟩
      · go_ret
        exact ⟨⟨_, rfl, by omega, by omega, by omega⟩, rfl⟩
      · go_ret
        exact ⟨⟨_, rfl, by omega, by omega, by omega⟩, rfl⟩
      · go_round
        case rel =>
          refine ⟨k + 1, _, by omega, by go_num, rfl, by omega, by omega, fun i hi => ?_⟩
          by_cases hik : i < k
          · exact Hs.out i hik
          · have : i = k := by omega
            subst this
            omega
        case measure => simp [intOf]; omega
    · go_wp2
      go_ret
      exact ⟨⟨_, rfl, by omega, by omega, fun _ => ⟨by omega, by omega, fun i hi => hsm i (by omega)⟩⟩, rfl⟩
end Go.Proofs.Qxb6621669a
