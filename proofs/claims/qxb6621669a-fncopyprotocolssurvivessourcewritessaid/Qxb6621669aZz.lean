/-
  zzBytes_..: each only reads, and answers some bool.
-/
import Derived.Test.Qxb6621669aRows
import Derived.Test.Qxb6621669aMem
import Derived.WalkKit
import Derived.WalkSpells
import Derived.WalkLawsBesides
set_option linter.unusedVariables false
namespace Go.Proofs.Qxb6621669a
open Go.RowKit

/-- It returned some bool. -/
def SomeBool (e : Ending) : Prop := ∃ r : Bool, e = .returned (.bool r)

set_option maxHeartbeats 1000000 in
theorem zzFresh_any (a : Option Addr) (cap : Nat) (p : PV) (w : World) (hp : ListAt 0 w a p) (hf : p.fits) :
    Calls Try.prog 17 #[.slice a p.len cap] w fun e w' => SomeBool e ∧ w' = w := by
  obtain ⟨hf1, hf2⟩ := hf
  by_cases h1 : (1048576 : Int) < (p.len : Int)
  · go_enter Try.func17, Try.ntmps17
    go_wp2
    go_ret
    exact ⟨⟨_, rfl⟩, rfl⟩
  go_enter Try.func17, Try.ntmps17
  go_wp2
  go_loop [3, 4] (fun s c => ∃ (k : Nat) (n : Int), k ≤ p.len ∧ c = .int .i64 k ∧ s = .int .i64 n ∧ 0 ≤ n ∧ n ≤ 1048576) (fun _ c => p.len - (intOf c).toNat)
  case atStart => exact ⟨0, _, Nat.zero_le _, rfl, rfl, by omega, by omega⟩
  case round =>
    obtain ⟨k, n, hk, rfl, rfl, hn0, hn1⟩ := hrel
    by_cases hlt : k < p.len
    · rcases hp with hp | ⟨b1, off, rfl, _, _, A, C, hc⟩
      · omega
      obtain ⟨c1, c2, _⟩ := hc k hlt
      obtain ⟨x1, x2⟩ := hf2 k hlt
      clear hc
      go_wp2
      iterate 4
        · go_ret
          exact ⟨⟨_, rfl⟩, rfl⟩
      · go_round
        case rel => exact ⟨k + 1, _, by omega, by go_num, rfl, by omega, by omega⟩
        case measure => simp [intOf]; omega
    · go_wp2
      go_ret
      exact ⟨⟨_, rfl⟩, rfl⟩

set_option maxHeartbeats 1000000 in
theorem zzSurv_any (a : Option Addr) (cap : Nat) (p : PV) (w : World) (hp : ListAt 0 w a p) (hf : p.fits) :
    Calls Try.prog 19 #[.slice a p.len cap] w fun e w' => SomeBool e ∧ w' = w := by
  obtain ⟨hf1, hf2⟩ := hf
  by_cases h1 : (1048576 : Int) < (p.len : Int)
  · go_enter Try.func19, Try.ntmps19
    go_wp2
    go_ret
    exact ⟨⟨_, rfl⟩, rfl⟩
  go_enter Try.func19, Try.ntmps19
  go_wp2
  go_loop [3, 4] (fun s c => ∃ (k : Nat) (n : Int), k ≤ p.len ∧ c = .int .i64 k ∧ s = .int .i64 n ∧ 0 ≤ n ∧ n ≤ 1048576) (fun _ c => p.len - (intOf c).toNat)
  case atStart => exact ⟨0, _, Nat.zero_le _, rfl, rfl, by omega, by omega⟩
  case round =>
    obtain ⟨k, n, hk, rfl, rfl, hn0, hn1⟩ := hrel
    by_cases hlt : k < p.len
    · rcases hp with hp | ⟨b1, off, rfl, _, _, A, C, hc⟩
      · omega
      obtain ⟨c1, c2, _⟩ := hc k hlt
      obtain ⟨x1, x2⟩ := hf2 k hlt
      clear hc
      go_wp2
      iterate 4
        · go_ret
          exact ⟨⟨_, rfl⟩, rfl⟩
      · go_round
        case rel => exact ⟨k + 1, _, by omega, by go_num, rfl, by omega, by omega⟩
        case measure => simp [intOf]; omega
    · go_wp2
      go_ret
      exact ⟨⟨_, rfl⟩, rfl⟩

set_option maxHeartbeats 2000000 in
theorem zzCut_any (a b : Option Addr) (cap cap' : Nat) (p q : PV) (i : Int) (w : World) (hp : ListAt 0 w a p) (hq : ListAt 0 w b q) (hf : p.fits) (hg : q.fits) :
    Calls Try.prog 16 #[.slice a p.len cap, .slice b q.len cap', .int .i64 i] w fun e w' => SomeBool e ∧ w' = w := by
  obtain ⟨hf1, hf2⟩ := hf
  obtain ⟨hg1, hg2⟩ := hg
  by_cases h1 : (1048576 : Int) < (p.len : Int)
  · go_enter Try.func16, Try.ntmps16
    go_wp2
    go_ret
    exact ⟨⟨_, rfl⟩, rfl⟩
  go_enter Try.func16, Try.ntmps16
  go_wp2
  go_loop [7, 8] (fun s c => ∃ (k : Nat) (n : Int), k ≤ p.len ∧ c = .int .i64 k ∧ s = .int .i64 n ∧ 0 ≤ n ∧ n ≤ 1048576) (fun _ c => p.len - (intOf c).toNat)
  case atStart => exact ⟨0, _, Nat.zero_le _, rfl, rfl, by omega, by omega⟩
  case round =>
    obtain ⟨k, n, hk, rfl, rfl, hn0, hn1⟩ := hrel
    by_cases hlt : k < p.len
    · rcases hp with hp | ⟨b1, off, rfl, _, _, A, C, hc⟩
      · omega
      obtain ⟨c1, c2, _⟩ := hc k hlt
      obtain ⟨x1, x2⟩ := hf2 k hlt
      clear hc
      go_wp2
      iterate 4
        · go_ret
          exact ⟨⟨_, rfl⟩, rfl⟩
      · go_round
        case rel => exact ⟨k + 1, _, by omega, by go_num, rfl, by omega, by omega⟩
        case measure => simp [intOf]; omega
    · clear hp hf2
      by_cases h2 : (1048576 : Int) < (q.len : Int)
      · go_wp2
        go_ret
        exact ⟨⟨_, rfl⟩, rfl⟩
      by_cases h3 : (1048576 : Int) < n + (q.len : Int)
      · go_wp2
        go_ret
        exact ⟨⟨_, rfl⟩, rfl⟩
      go_wp2
      clear hk hlt
      go_loop [7, 9] (fun s c => ∃ (k : Nat) (n : Int), k ≤ q.len ∧ c = .int .i64 k ∧ s = .int .i64 n ∧ 0 ≤ n ∧ n ≤ 1048576) (fun _ c => q.len - (intOf c).toNat)
      case atStart => exact ⟨0, _, Nat.zero_le _, rfl, rfl, by omega, by omega⟩
      case round =>
        obtain ⟨k, n, hk, rfl, rfl, hn0, hn1⟩ := hrel
        by_cases hlt : k < q.len
        · rcases hq with hq | ⟨b1, off, rfl, _, _, A, C, hc⟩
          · omega
          obtain ⟨c1, c2, _⟩ := hc k hlt
          obtain ⟨x1, x2⟩ := hg2 k hlt
          clear hc
          go_wp2
          iterate 4
            · go_ret
              exact ⟨⟨_, rfl⟩, rfl⟩
          · go_round
            case rel => exact ⟨k + 1, _, by omega, by go_num, rfl, by omega, by omega⟩
            case measure => simp [intOf]; omega
        · go_wp2
          go_ret
          exact ⟨⟨_, rfl⟩, rfl⟩

set_option maxHeartbeats 2000000 in
theorem zzEnc_any (a b : Option Addr) (cap cap' : Nat) (p q : PV) (w : World) (hp : ListAt 0 w a p) (hq : ListAt 0 w b q) (hf : p.fits) (hg : q.fits) :
    Calls Try.prog 10 #[.slice a p.len cap, .slice b q.len cap'] w fun e w' => SomeBool e ∧ w' = w := by
  obtain ⟨hf1, hf2⟩ := hf
  obtain ⟨hg1, hg2⟩ := hg
  by_cases h1 : (1048576 : Int) < (p.len : Int)
  · go_enter Try.func10, Try.ntmps10
    go_wp2
    go_ret
    exact ⟨⟨_, rfl⟩, rfl⟩
  go_enter Try.func10, Try.ntmps10
  go_wp2
  go_loop [5, 6] (fun s c => ∃ (k : Nat) (n : Int), k ≤ p.len ∧ c = .int .i64 k ∧ s = .int .i64 n ∧ 0 ≤ n ∧ n ≤ 1048576) (fun _ c => p.len - (intOf c).toNat)
  case atStart => exact ⟨0, _, Nat.zero_le _, rfl, rfl, by omega, by omega⟩
  case round =>
    obtain ⟨k, n, hk, rfl, rfl, hn0, hn1⟩ := hrel
    by_cases hlt : k < p.len
    · rcases hp with hp | ⟨b1, off, rfl, _, _, A, C, hc⟩
      · omega
      obtain ⟨c1, c2, _⟩ := hc k hlt
      obtain ⟨x1, x2⟩ := hf2 k hlt
      clear hc
      go_wp2
      iterate 4
        · go_ret
          exact ⟨⟨_, rfl⟩, rfl⟩
      · go_round
        case rel => exact ⟨k + 1, _, by omega, by go_num, rfl, by omega, by omega⟩
        case measure => simp [intOf]; omega
    · clear hp hf2
      by_cases h2 : (1048576 : Int) < (q.len : Int)
      · go_wp2
        go_ret
        exact ⟨⟨_, rfl⟩, rfl⟩
      by_cases h3 : (1048576 : Int) < n + (q.len : Int)
      · go_wp2
        go_ret
        exact ⟨⟨_, rfl⟩, rfl⟩
      go_wp2
      clear hk hlt
      go_loop [5, 7] (fun s c => ∃ (k : Nat) (n : Int), k ≤ q.len ∧ c = .int .i64 k ∧ s = .int .i64 n ∧ 0 ≤ n ∧ n ≤ 1048576) (fun _ c => q.len - (intOf c).toNat)
      case atStart => exact ⟨0, _, Nat.zero_le _, rfl, rfl, by omega, by omega⟩
      case round =>
        obtain ⟨k, n, hk, rfl, rfl, hn0, hn1⟩ := hrel
        by_cases hlt : k < q.len
        · rcases hq with hq | ⟨b1, off, rfl, _, _, A, C, hc⟩
          · omega
          obtain ⟨c1, c2, _⟩ := hc k hlt
          obtain ⟨x1, x2⟩ := hg2 k hlt
          clear hc
          go_wp2
          iterate 4
            · go_ret
              exact ⟨⟨_, rfl⟩, rfl⟩
          · go_round
            case rel => exact ⟨k + 1, _, by omega, by go_num, rfl, by omega, by omega⟩
            case measure => simp [intOf]; omega
        · go_wp2
          go_ret
          exact ⟨⟨_, rfl⟩, rfl⟩
end Go.Proofs.Qxb6621669a
