/-
  FnMeetAnswersColumnSatisfiability: the walk, out of the contracts.
-/
import Derived.Test.Qxb6623474aDoorZm
import Derived.Test.Qxb6623474aDoorDom
import Derived.Test.Qxb6623474aDoorZz
set_option linter.unusedVariables false
set_option linter.unusedSimpArgs false
namespace Go.Proofs.Qxb6623474aDoor
open Go.RowKit Go.Maps

/-- The law's own sum. -/
def tot (A : Nat → Atom) : Nat → Nat
  | 0 => 0
  | k + 1 => tot A k + (48 + (A k).str.size)

set_option maxHeartbeats 4000000 in
set_option maxRecDepth 100000 in
theorem law_walk (hM : MeetsOk) (a : Option Addr) (n cap : Nat) (A : Nat → Atom) (w : World) (hp : AtomsAt w a n A) (hn : n ≤ 9223372036854775807) (hV : ∀ i, i < n → (A i).str.size ≤ 9223372036854775807) (hcol : ∀ i, i < n → I64 (A i).col) (htab : Tab w.heap.size w) :
    Calls Tryd.prog 3 #[.slice a n cap] w fun e w' => e = .returned (.bool true) ∧ Below w.heap.size w w' := by
  have ZW := zz_walk a n cap A w hp hn hV
  have HM := hide hM
  have HC := hide hcol
  have HT := hide htab
  clear hM hcol htab hV
  by_cases h1 : (512 : Int) < (n : Int)
  · clear HM HC HT
    go_enter Tryd.func3, Tryd.ntmps3
    go_wp2_with (go_at_call 4; refine ZW.mono ?_; rintro e w1 ⟨⟨r, rfl, hr⟩, e1⟩; cases e1; have Hr := hide hr; clear hr)
    all_goals (go_ret; exact ⟨rfl, Below.refl _ _⟩)
  go_enter Tryd.func3, Tryd.ntmps3
  go_wp2_with (go_at_call 4; refine ZW.mono ?_; rintro e w1 ⟨⟨r, rfl, hr⟩, e1⟩; cases e1; have Hr := hide hr; clear hr)
  · go_ret
    exact ⟨rfl, Below.refl _ _⟩
  have hr : r = true := by cases r <;> simp_all
  have hV' := unhide Hr hr
  subst hr
  clear Hr ZW
  go_loop [3, 4] (fun t c => ∃ k : Nat, k ≤ n ∧ c = .int .i64 k ∧ t = .int .i64 (tot A k) ∧ tot A k ≤ 1048576) (fun _ c => n - (intOf c).toNat)
  case atStart => exact ⟨0, Nat.zero_le _, rfl, rfl, by show 0 ≤ 1048576; omega⟩
  case round =>
    obtain ⟨k, hk, rfl, rfl, ht⟩ := hrel
    by_cases hlt : k < n
    · have hp' := hp
      rcases hp' with hp' | ⟨b1, off, rfl, _, hc⟩
      · omega
      obtain ⟨-, -, -, -, -, c5⟩ := hc k hlt
      have x1 := hV' k hlt
      have HTo := hide (show tot A (k + 1) = tot A k + (48 + (A k).str.size) from rfl)
      have k0 : (0 : Int) ≤ (k : Int) := by omega
      have k1 : (k : Int) < (n : Int) := by omega
      clear hc hV' hp
      go_wp2
      · go_ret
        exact ⟨rfl, Below.refl _ _⟩
      · go_round
        case rel => exact ⟨k + 1, by omega, by go_num, by rw [unhide HTo]; go_num, by rw [unhide HTo]; omega⟩
        case measure => simp [intOf]; omega
    · have ek : k = n := by omega
      subst ek
      clear hV' ht
      have k2 : ¬ (k : Int) < (k : Int) := by omega
      go_wp2
      go_loopw [5] (fun c wr => ∃ j : Nat, j ≤ k ∧ c = .int .i64 j ∧ Below w.heap.size w wr ∧ Hid (∀ i, i < j → (A i).dom)) (fun c _ => k - (intOf c).toNat)
      case atStart => exact ⟨0, Nat.zero_le _, rfl, Below.refl _ _, hide fun i hi => absurd hi (Nat.not_lt_zero _)⟩
      case round =>
        obtain ⟨j, hj, rfl, hb, hall⟩ := hrel
        by_cases hjk : j < k
        · have hp' := hp.below hb (Nat.le_refl _)
          rcases hp' with hp' | ⟨b1, off, rfl, _, hc⟩
          · omega
          obtain ⟨c0, c1, c2, c3, c4, c5⟩ := hc j hjk
          have j0 : (0 : Int) ≤ (j : Int) := by omega
          have j1 : (j : Int) < (k : Int) := by omega
          have DW := dom_walk (A j) wr
          clear hc hp
          go_wp2_with (go_at_call 5; refine DW.mono ?_; rintro e w1 ⟨r, rfl, hr, b1⟩; have Hr := hide hr; have B1 := hide (hb.trans (b1.mono hb.size)); clear hr b1; cases r)
          · go_ret
            exact ⟨rfl, unhide B1⟩
          · go_roundw
            case rel => exact ⟨j + 1, by omega, by go_num, unhide B1, hide fun i hi => by
              by_cases e : i < j
              · exact unhide hall i e
              · have e' : i = j := by omega
                subst e'; exact unhide Hr trivial⟩
            case measure => simp [intOf]; omega
        · have ej : j = k := by omega
          subst ej
          have NW := new_walk A w.heap.size wr hb.size
          have j2 : ¬ (j : Int) < (j : Int) := by omega
          go_wp2_with (go_at_call 6; refine NW.mono ?_; rintro e w1 ⟨sb, cm, em, rfl, b1, hx⟩; have HX := hide hx; have B1 := hide (hb.trans (b1.mono hb.size)); clear hx b1)
          clear NW j2
          go_loopw [7] (fun c wr => ∃ i : Nat, i ≤ j ∧ c = .int .i64 i ∧ Below w.heap.size w wr ∧ Hid (∃ st tv, SxAt wr w.heap.size sb cm em A i st tv)) (fun c _ => j - (intOf c).toNat)
          case atStart => exact ⟨0, Nat.zero_le _, rfl, unhide B1, hide ⟨_, _, unhide HX⟩⟩
          case round =>
            obtain ⟨i, hi, rfl, hbi, hsx⟩ := hrel
            by_cases hij : i < j
            · obtain ⟨st, tv, hx⟩ := unhide hsx
              have hp' := hp.below hbi (Nat.le_refl _)
              rcases hp' with hp' | ⟨b1, off, rfl, _, hc⟩
              · omega
              obtain ⟨c0, c1, c2, c3, c4, c5⟩ := hc i hij
              have hmw := meet_want hx.rep (fun i' h => unhide hall i' (by omega))
              have O := new_below wr (.cells #[.int .i64 (A i).col, .int .u8 (A i).op, .int .u8 (A i).ty, .bool (A i).nul, .int .i64 (A i).n, .string (A i).str] 25)
              have hbO := hbi.trans (O.mono hbi.size)
              have ZM := zm_walk (unhide HM) A w.heap.size sb cm em i st tv _ (hx.below O) (by omega) (unhide hall i hij) (unhide HC i hij) hbO.size ((unhide HT).below hbO)
              have hcd : ∀ j', j' < j → candJ A i j' → -9223372036854775806 ≤ (A j').n ∧ (A j').n ≤ 9223372036854775805 := fun j' hj' hcj => by
                rcases unhide hall j' hj' with h | h | ⟨_, h | h⟩
                · exact absurd h hcj.2.2.1
                · exact absurd h hcj.2.2.2
                · rw [hcj.2.1] at h; cases h
                · exact h.2
              have AW := fun (X : World) (hX : Below w.heap.size w X) => all_walk (some ⟨b1, off, none⟩) j cap A i true 0 false X (hp.below hX (Nat.le_refl _)) hij (by omega)
              have W1 := fun (X : World) (hX : Below w.heap.size w X) => wit_walk (some ⟨b1, off, none⟩) j cap A i false 1 X (hp.below hX (Nat.le_refl _)) hij (by omega) (.inl rfl) hcd
              have W2 := fun (X : World) (hX : Below w.heap.size w X) => wit_walk (some ⟨b1, off, none⟩) j cap A i true 2 X (hp.below hX (Nat.le_refl _)) hij (by omega) (.inr rfl) hcd
              obtain ⟨m1, e1⟩ : ∃ m, m = meetsF A i true 0 false := ⟨_, rfl⟩
              obtain ⟨m2, e2⟩ : ∃ m, m = witF A i false 1 := ⟨_, rfl⟩
              obtain ⟨m3, e3⟩ : ∃ m, m = witF A i true 2 := ⟨_, rfl⟩
              unfold wantB at hmw
              unfold ZmPost at ZM
              rw [hmw] at ZM
              simp only [← e1, ← e2, ← e3] at ZM AW W1 W2
              have i0 : (0 : Int) ≤ (i : Int) := by omega
              have i1 : (i : Int) < (j : Int) := by omega
              clear hmw e1 e2 e3 hc hp hcd O hx hsx hall HC HM HT
              cases m1 with
              | true =>
                simp only [Bool.true_or, forall_const] at ZM
                go_wp2_with (first
                  | (go_at_call 7; refine ZM.mono ?_; rintro e w2 ⟨rfl, b2, h2⟩; have H2 := hide h2; have B2 : Below w.heap.size w w2 := hbO.trans b2; clear h2 b2)
                  | (go_at_call 8; refine (AW w2 B2).mono ?_; rintro e w3 ⟨rfl, b3⟩; have B3 := B2.trans (b3.mono B2.size)))
                have BL := hide B3
                obtain ⟨st', tv', hx'⟩ := unhide H2
                have HX' := hide (hx'.below b3)
                clear H2 hx'
                clear B2 B3 b3
                go_roundw
                case rel => exact ⟨i + 1, by omega, by go_num, unhide BL, hide ⟨_, _, unhide HX'⟩⟩
                case measure => simp [intOf]; omega
              | false =>
                cases m2 with
                | true =>
                  simp only [Bool.false_or, Bool.true_or, forall_const] at ZM
                  go_wp2_with (first
                    | (go_at_call 7; refine ZM.mono ?_; rintro e w2 ⟨rfl, b2, h2⟩; have H2 := hide h2; have B2 : Below w.heap.size w w2 := hbO.trans b2; clear h2 b2)
                    | (go_at_call 8; refine (AW w2 B2).mono ?_; rintro e w3 ⟨rfl, b3⟩; have B3 := B2.trans (b3.mono B2.size))
                    | (go_at_call 9; with_reducible refine (W1 w3 B3).mono ?_; rintro e w4 ⟨rfl, b4⟩; have B4 := B3.trans (b4.mono B3.size)))
                  have BL := hide B4
                  obtain ⟨st', tv', hx'⟩ := unhide H2
                  have HX' := hide (hx'.below b3 |>.below b4)
                  clear H2 hx'
                  clear B2 B3 b3 B4 b4
                  go_roundw
                  case rel => exact ⟨i + 1, by omega, by go_num, unhide BL, hide ⟨_, _, unhide HX'⟩⟩
                  case measure => simp [intOf]; omega
                | false =>
                  cases m3 with
                  | true =>
                    simp only [Bool.false_or, Bool.true_or, forall_const] at ZM
                    go_wp2_with (first
                      | (go_at_call 7; refine ZM.mono ?_; rintro e w2 ⟨rfl, b2, h2⟩; have H2 := hide h2; have B2 : Below w.heap.size w w2 := hbO.trans b2; clear h2 b2)
                      | (go_at_call 8; refine (AW w2 B2).mono ?_; rintro e w3 ⟨rfl, b3⟩; have B3 := B2.trans (b3.mono B2.size))
                      | (go_at_call 9; with_reducible refine (W1 w3 B3).mono ?_; rintro e w4 ⟨rfl, b4⟩; have B4 := B3.trans (b4.mono B3.size))
                      | (go_at_call 9; with_reducible refine (W2 w4 B4).mono ?_; rintro e w5 ⟨rfl, b5⟩; have B5 := B4.trans (b5.mono B4.size)))
                    have BL := hide B5
                    obtain ⟨st', tv', hx'⟩ := unhide H2
                    have HX' := hide (hx'.below b3 |>.below b4 |>.below b5)
                    clear H2 hx'
                    clear B2 B3 b3 B4 b4 B5 b5
                    go_roundw
                    case rel => exact ⟨i + 1, by omega, by go_num, unhide BL, hide ⟨_, _, unhide HX'⟩⟩
                    case measure => simp [intOf]; omega
                  | false =>
                    simp only [Bool.or_false] at ZM
                    go_wp2_with (first
                      | (go_at_call 7; refine ZM.mono ?_; rintro e w2 ⟨rfl, b2, h2⟩; have B2 : Below w.heap.size w w2 := hbO.trans b2; clear h2 b2)
                      | (go_at_call 8; refine (AW w2 B2).mono ?_; rintro e w3 ⟨rfl, b3⟩; have B3 := B2.trans (b3.mono B2.size))
                      | (go_at_call 9; with_reducible refine (W1 w3 B3).mono ?_; rintro e w4 ⟨rfl, b4⟩; have B4 := B3.trans (b4.mono B3.size))
                      | (go_at_call 9; with_reducible refine (W2 w4 B4).mono ?_; rintro e w5 ⟨rfl, b5⟩; have B5 := B4.trans (b5.mono B4.size)))
                    go_ret
                    exact ⟨rfl, B5⟩
            · have ei : i = j := by omega
              subst ei
              have j2 : ¬ (i : Int) < (i : Int) := by omega
              go_wp2
              go_ret
              exact ⟨rfl, hbi⟩

end Go.Proofs.Qxb6623474aDoor
