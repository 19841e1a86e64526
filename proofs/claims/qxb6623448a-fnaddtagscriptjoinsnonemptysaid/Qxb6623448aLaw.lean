/-
  FnAddTagScriptJoinsNonEmpty: the walk, out of the contracts.
-/
import Derived.Test.Qxb6623448aWalk
set_option linter.unusedVariables false
namespace Go.Proofs.Qxb6623448a
open Go.RowKit

theorem V_le (s : ByteArray) (V : Nat → ByteArray) (k : Nat) : (V k).size ≤ tot s V (k + 1) := by simp only [tot]; omega

set_option maxHeartbeats 2000000 in
theorem law_walk (s : ByteArray) (a : Option Addr) (n cap : Nat) (V : Nat → ByteArray) (w : World) (hp : StrsAt w a n V) (hs : s.size ≤ 9223372036854775807) (hn : n ≤ 9223372036854775807) (hV : ∀ i, i < n → (V i).size ≤ 9223372036854775807) :
    Calls Try.prog 3 #[.string s, .slice a n cap] w fun e w' => e = .returned (.bool true) ∧ Below w.heap.size w w' := by
  by_cases h1 : (65536 : Int) < (n : Int)
  · go_enter Try.func3, Try.ntmps3
    go_wp2_with (go_at_call 4; refine (zz_any s a n cap V _ hp hs hn hV).mono ?_; rintro e w1 ⟨⟨r, rfl, hr⟩, e1⟩; cases e1; have Hr := hide hr; clear hr)
    all_goals (go_ret; exact ⟨rfl, Below.refl _ _⟩)
  by_cases h2 : (1048576 : Int) < (s.size : Int)
  · go_enter Try.func3, Try.ntmps3
    go_wp2_with (go_at_call 4; refine (zz_any s a n cap V _ hp hs hn hV).mono ?_; rintro e w1 ⟨⟨r, rfl, hr⟩, e1⟩; cases e1; have Hr := hide hr; clear hr)
    all_goals (go_ret; exact ⟨rfl, Below.refl _ _⟩)
  go_enter Try.func3, Try.ntmps3
  go_wp2_with (go_at_call 4; refine (zz_any s a n cap V _ hp hs hn hV).mono ?_; rintro e w1 ⟨⟨r, rfl, hr⟩, e1⟩; cases e1; have Hr := hide hr; clear hr)
  · go_ret
    exact ⟨rfl, Below.refl _ _⟩
  have hr : r = true := by cases r <;> simp_all
  have hV' := unhide Hr hr
  subst hr
  clear hV Hr
  go_loop [5, 6] (fun t c => ∃ k : Nat, k ≤ n ∧ c = .int .i64 k ∧ t = .int .i64 (tot s V k) ∧ tot s V k ≤ 1048576) (fun _ c => n - (intOf c).toNat)
  case atStart => exact ⟨0, Nat.zero_le _, rfl, rfl, by show s.size ≤ 1048576; omega⟩
  case round =>
    obtain ⟨k, hk, rfl, rfl, ht⟩ := hrel
    by_cases hlt : k < n
    · have hp' := hp
      rcases hp' with hp' | ⟨b1, off, rfl, _, hc⟩
      · omega
      have c1 := hc k hlt
      have x1 := hV' k hlt
      have HT := hide (show tot s V (k + 1) = tot s V k + (16 + (V k).size) from rfl)
      clear hc hV' hp
      go_wp2
      · go_ret
        exact ⟨rfl, Below.refl _ _⟩
      · go_round
        case rel => exact ⟨k + 1, by omega, by go_num, by rw [unhide HT]; go_num, by rw [unhide HT]; omega⟩
        case measure => simp [intOf]; omega
    · have ek : k = n := by omega
      subst ek
      have HFl := hide (show ∀ j, j ≤ k → (fld s V j).size ≤ 1048576 from fun j hj => Nat.le_trans (fld_le s V j) (Nat.le_trans (tot_mono s V hj) ht))
      have HVl := hide (show ∀ j, j < k → (V j).size ≤ 1048576 from fun j hj => Nat.le_trans (V_le s V j) (Nat.le_trans (tot_mono s V (by omega)) ht))
      clear hV' ht
      go_wp2_with fail
      refine (join_any s a k cap V w hp (by omega) (unhide HFl) (unhide HVl)).mono ?_
      rintro e w1 ⟨rfl, b1⟩
      have hp1 := hp.below b1
      have hal : Below w1.heap.size w1 (w1.alloc (Obj.cells #[.string s] 9)) := (Below.refl _ _).alloc (Nat.le_refl _) _
      have hc0 : (w1.alloc (Obj.cells #[.string s] 9)).cell? ⟨w1.heap.size, 0, none⟩ = some (.string s) := by simp
      have hf0 : (w1.alloc (Obj.cells #[.string s] 9)).frozen? ⟨w1.heap.size, 0, none⟩ = false := by simp
      have hz1 := b1.size
      go_wp2_with fail
      generalize w1.alloc (Obj.cells #[.string s] 9) = X at *
      have hpX := hp1.below hal
      have bX := b1.trans (hal.mono hz1)
      have hlt1 : ∀ b off, a = some ⟨b, off, none⟩ → k ≠ 0 → b < w1.heap.size := by
        intro b off e hk0
        rcases hp1 with h | ⟨b', off', e', h', _⟩
        · omega
        · rw [e] at e'; cases e'; exact h'
      clear b1 hp1 hp
      have Hlt1 := hide hlt1
      clear hlt1
      generalize w1.heap.size = bf at *
      go_loopw [9] (fun c wr => ∃ j : Nat, j ≤ k ∧ c = .int .i64 j ∧ (wr.cell? ⟨bf, 0, none⟩ = some (.string (fld s V j)) ∧ wr.frozen? ⟨bf, 0, none⟩ = false) ∧ Below bf X wr) (fun c _ => k - (intOf c).toNat)
      case atStart => exact ⟨0, Nat.zero_le _, rfl, ⟨hc0, hf0⟩, Below.refl _ _⟩
      case round =>
        obtain ⟨j, hj, rfl, ⟨hcj, hfj⟩, hbj⟩ := hrel
        clear hc0 hf0
        by_cases hjlt : j < k
        · rcases hpX with hpX | ⟨b1, off, rfl, hbs, hc⟩
          · omega
          have hb1 := unhide Hlt1 b1 off rfl (by omega)
          have c1 : wr.cell? ⟨b1, off + j, none⟩ = some (.string (V j)) := by rw [hbj.cell hb1]; exact hc j hjlt
          clear hc
          go_wp2_with fail
          refine (zzAddTag_any bf (fld s V j) (V j) wr hcj hfj (unhide HFl j hj) (unhide HVl j hjlt)).mono ?_
          rintro e w2 ⟨rfl, h2c, h2g⟩
          have hb2 : Below bf X w2 := hbj.grown h2g (by have := hbj.size; have := World.block_lt_of_cell? wr _ hcj; show bf ≤ _; exact Nat.le_of_lt this) (fun i hi => by cases hi; exact Nat.le_refl _)
          go_wp2
          go_roundw
          case rel => exact ⟨j + 1, by omega, by go_num, h2c, hb2⟩
          case measure => simp [intOf]; omega
        · have ej : j = k := by omega
          subst ej
          go_wp2
          go_ret
          exact ⟨by simp, bX.trans (hbj.mono hz1)⟩
end Go.Proofs.Qxb6623448a
