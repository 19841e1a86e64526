/-
  zzWitnesses (9): are there one, two different numbers, among the candidates, that meet the atoms?
-/
import Derived.Test.Qxb6623474aDoorAll
set_option linter.unusedVariables false
namespace Go.Proofs.Qxb6623474aDoor
open Go.RowKit

def Good (A : Nat → Atom) (i : Nat) (loose : Bool) (x : Int) : Prop := meetsF A i false x loose = true
def candJ (A : Nat → Atom) (i j : Nat) : Prop := (A j).col = (A i).col ∧ (A j).nul = false ∧ (A j).op ≠ 11 ∧ (A j).op ≠ 12
/-- The candidates of the first k rounds (the first one: about 0). -/
def Cand (A : Nat → Atom) (i k : Nat) (x : Int) : Prop :=
  (0 < k ∧ -2 ≤ x ∧ x ≤ 2) ∨ ∃ j, j + 1 < k ∧ candJ A i j ∧ (A j).n - 2 ≤ x ∧ x ≤ (A j).n + 2
def Enough (A : Nat → Atom) (i : Nat) (loose : Bool) (need : Int) : Prop :=
  (need = 1 ∧ ∃ x, Cand A i (i + 2) x ∧ Good A i loose x) ∨ (need = 2 ∧ ∃ x y, x ≠ y ∧ Cand A i (i + 2) x ∧ Cand A i (i + 2) y ∧ Good A i loose x ∧ Good A i loose y)
open Classical in
noncomputable def witF (A : Nat → Atom) (i : Nat) (loose : Bool) (need : Int) : Bool := decide (Enough A i loose need)
theorem witF_iff {A : Nat → Atom} {i : Nat} {loose : Bool} {need : Int} : witF A i loose need = true ↔ Enough A i loose need := by
  unfold witF; simp

/-- What is known when the numbers P have been looked at, and fewer than need have been found. -/
def St (A : Nat → Atom) (i : Nat) (loose : Bool) (need : Int) (P : Int → Prop) (f g : Int) : Prop :=
  (f = 0 ∧ ∀ x, P x → ¬ Good A i loose x) ∨ (f = 1 ∧ need = 2 ∧ Good A i loose g ∧ Cand A i (i + 2) g ∧ ∀ x, P x → Good A i loose x → x = g)

theorem Cand.mono {A : Nat → Atom} {i k k' : Nat} {x : Int} (h : Cand A i k x) (hk : k ≤ k') : Cand A i k' x := by
  rcases h with ⟨h0, h1⟩ | ⟨j, hj, h1⟩
  · exact .inl ⟨by omega, h1⟩
  · exact .inr ⟨j, by omega, h1⟩

theorem St.congr {A : Nat → Atom} {i : Nat} {loose : Bool} {need : Int} {P P' : Int → Prop} {f g : Int} (h : St A i loose need P f g) (hp : ∀ x, P' x → P x) : St A i loose need P' f g := by
  rcases h with ⟨h0, h1⟩ | ⟨h0, h1, h2, h3, h4⟩
  · exact .inl ⟨h0, fun x hx => h1 x (hp x hx)⟩
  · exact .inr ⟨h0, h1, h2, h3, fun x hx => h4 x (hp x hx)⟩

theorem St.bad {A : Nat → Atom} {i : Nat} {loose : Bool} {need : Int} {P P' : Int → Prop} {f g y : Int} (h : St A i loose need P f g) (hy : meetsF A i false y loose = false) (hp : ∀ x, P' x → P x ∨ x = y) : St A i loose need P' f g := by
  have hn : ¬ Good A i loose y := by unfold Good; rw [hy]; simp
  rcases h with ⟨h0, h1⟩ | ⟨h0, h1, h2, h3, h4⟩
  · exact .inl ⟨h0, fun x hx => (hp x hx).elim (h1 x) (fun e => e ▸ hn)⟩
  · exact .inr ⟨h0, h1, h2, h3, fun x hx hg => (hp x hx).elim (fun h => h4 x h hg) (fun e => absurd (e ▸ hg) hn)⟩

theorem St.first {A : Nat → Atom} {i : Nat} {loose : Bool} {P P' : Int → Prop} {g y : Int} (h : St A i loose 2 P 0 g) (hy : meetsF A i false y loose = true) (hc : Cand A i (i + 2) y) (hp : ∀ x, P' x → P x ∨ x = y) : St A i loose 2 P' 1 y := by
  rcases h with ⟨h0, h1⟩ | ⟨h0, _⟩
  · exact .inr ⟨rfl, rfl, hy, hc, fun x hx hg => (hp x hx).elim (fun h => absurd hg (h1 x h)) id⟩
  · cases h0

theorem St.again {A : Nat → Atom} {i : Nat} {loose : Bool} {need : Int} {P P' : Int → Prop} {g : Int} (h : St A i loose need P 1 g) (hp : ∀ x, P' x → P x ∨ x = g) : St A i loose need P' 1 g := by
  rcases h with ⟨h0, _⟩ | ⟨h0, h1, h2, h3, h4⟩
  · cases h0
  · exact .inr ⟨h0, h1, h2, h3, fun x hx hg => (hp x hx).elim (fun h => h4 x h hg) id⟩

theorem enough1 {A : Nat → Atom} {i : Nat} {loose : Bool} {y : Int} (hy : meetsF A i false y loose = true) (hc : Cand A i (i + 2) y) : witF A i loose 1 = true := witF_iff.2 (.inl ⟨rfl, y, hc, hy⟩)
theorem enough2 {A : Nat → Atom} {i : Nat} {loose : Bool} {need : Int} {P : Int → Prop} {g y : Int} (h : St A i loose need P 1 g) (hne : y ≠ g) (hy : meetsF A i false y loose = true) (hc : Cand A i (i + 2) y) : witF A i loose need = true := by
  rcases h with ⟨h0, _⟩ | ⟨h0, h1, h2, h3, h4⟩
  · cases h0
  · exact witF_iff.2 (.inr ⟨h1, y, g, hne, hc, h3, hy, h2⟩)
theorem enough_not {A : Nat → Atom} {i : Nat} {loose : Bool} {need f g : Int} (h : St A i loose need (Cand A i (i + 2)) f g) : witF A i loose need = false := by
  cases hw : witF A i loose need with
  | false => rfl
  | true =>
    rcases witF_iff.1 hw with ⟨rfl, x, hx, hg⟩ | ⟨rfl, x, y, hne, hx, hy, hgx, hgy⟩
    · rcases h with ⟨_, h1⟩ | ⟨_, h1, _⟩
      · exact absurd hg (h1 x hx)
      · cases h1
    · rcases h with ⟨_, h1⟩ | ⟨_, _, _, _, h4⟩
      · exact absurd hgx (h1 x hx)
      · exact absurd ((h4 x hx hgx).trans (h4 y hy hgy).symm) hne

theorem St.need1 {A : Nat → Atom} {i : Nat} {loose : Bool} {P : Int → Prop} {f g : Int} (h : St A i loose 1 P f g) : f = 0 := by
  rcases h with ⟨h0, _⟩ | ⟨_, h1, _⟩
  · exact h0
  · cases h1
theorem St.cases {A : Nat → Atom} {i : Nat} {loose : Bool} {need : Int} {P : Int → Prop} {f g : Int} (h : St A i loose need P f g) : f = 0 ∨ (f = 1 ∧ need = 2) := by
  rcases h with ⟨h0, _⟩ | ⟨h0, h1, _⟩
  · exact .inl h0
  · exact .inr ⟨h0, h1⟩

set_option maxHeartbeats 2000000 in
set_option maxRecDepth 100000 in
theorem wit_walk (a : Option Addr) (n cap : Nat) (A : Nat → Atom) (i : Nat) (loose : Bool) (need : Int) (w : World) (ha : AtomsAt w a n A) (hi : i < n) (hn : n ≤ 512) (hneed : need = 1 ∨ need = 2)
    (hdom : ∀ j, j < n → candJ A i j → -9223372036854775806 ≤ (A j).n ∧ (A j).n ≤ 9223372036854775805) :
    Calls Tryd.prog 9 #[.slice a n cap, .int .i64 i, .bool loose, .int .i64 need] w fun e w' => e = .returned (.bool (witF A i loose need)) ∧ Below w.heap.size w w' := by
  have HA := hide ha
  rcases ha with h | ⟨b, off, rfl, hlt, hc⟩
  · omega
  obtain ⟨q0, -, -, -, -, -⟩ := hc i hi
  have HC := hide hc
  clear hc
  have i0 : (0 : Int) ≤ (i : Int) := by omega
  have i1 : (i : Int) < (n : Int) := by omega
  obtain ⟨ci, hci⟩ : ∃ ci, ci = (A i).col := ⟨_, rfl⟩
  rw [← hci] at q0
  have HI := hide hci
  have HD := hide hdom
  clear hci hdom
  obtain ⟨r, hr⟩ : ∃ r, r = witF A i loose need := ⟨_, rfl⟩
  rw [← hr]
  have HR := hide hr
  clear hr
  go_enter Tryd.func9, Tryd.ntmps9
  go_wp2
  go_loopw [10, 11, 12] (fun tf tg c wr => ∃ (k : Nat) (f g : Int), k ≤ i + 2 ∧ c = .int .i64 ((k : Int) - 1) ∧ tf = .int .i64 f ∧ tg = .int .i64 g ∧ Below w.heap.size w wr ∧ Hid (St A i loose need (Cand A i k) f g)) (fun _ _ c _ => i + 2 - (intOf c + 1).toNat)
  case atStart => exact ⟨0, 0, 0, by omega, rfl, rfl, rfl, Below.refl _ _, hide (.inl ⟨rfl, fun x hx => by rcases hx with ⟨h, _⟩ | ⟨j, h, _⟩ <;> omega⟩)⟩
  case round =>
    obtain ⟨k, f, g, hk, rfl, rfl, rfl, hb, hst⟩ := hrel
    by_cases hlk : k < i + 2
    · have k2 : (k : Int) - 1 ≤ (i : Int) := by omega
      by_cases hk0 : k = 0
      · subst hk0
        have HB0 := hide hb
        have HCa := hide (show ∀ x : Int, 0 - 2 ≤ x → x ≤ 0 + 2 → Cand A i (i + 2) x from fun x h0 h1 => .inl ⟨by omega, by omega, by omega⟩)
        clear hb k2
        rw [show ((0 : Nat) : Int) - 1 = -1 from rfl]
        go_wp2
        go_loopw [10, 11, 15] (fun tf tg d wi => ∃ (t : Nat) (f g : Int), t ≤ 5 ∧ d = .int .i64 ((t : Int) - 2) ∧ tf = .int .i64 f ∧ tg = .int .i64 g ∧ Below w.heap.size w wi ∧ Hid (St A i loose need (fun x => Cand A i (0) x ∨ (0 - 2 ≤ x ∧ x < 0 - 2 + (t : Int))) f g)) (fun _ _ d _ => 5 - (intOf d + 2).toNat)
        case atStart => exact ⟨0, f, g, by omega, rfl, rfl, rfl, unhide HB0, hide ((unhide hst).congr fun x hx => hx.elim id (fun h => by omega))⟩
        case round =>
          obtain ⟨t, f1, g1, ht, rfl, rfl, rfl, hb1, hst1⟩ := hrel
          clear hst HB0
          rename World => wi
          obtain ⟨dd, hdd⟩ : ∃ dd : Int, dd = (t : Int) - 2 := ⟨_, rfl⟩
          rw [← hdd]
          by_cases ht5 : t < 5
          · have d0 : -2 ≤ dd := by omega
            have d1 : dd ≤ 2 := by omega
            have hx : wrap64 (dd) = dd := by unfold wrap64; omega
            have hd1 : wrap64 (dd + 1) = dd + 1 := by unfold wrap64; omega
            have hAr := hide ((unhide HA).below hb1 (Nat.le_refl _))
            have AW := fun (H : AtomsAt wi (some ⟨b, off, none⟩) n A) => all_walk (some ⟨b, off, none⟩) n cap A i false (dd) loose wi H hi hn
            have hC := hide (unhide HCa (dd) (by omega) (by omega))
            have hP := hide (show ∀ x, (Cand A i (0) x ∨ (0 - 2 ≤ x ∧ x < 0 - 2 + ((t + 1 : Nat) : Int))) → (Cand A i (0) x ∨ (0 - 2 ≤ x ∧ x < 0 - 2 + (t : Int))) ∨ x = dd from fun x hx => by
              rcases hx with h | h
              · exact .inl (.inl h)
              · by_cases e : x < 0 - 2 + (t : Int)
                · exact .inl (.inr ⟨h.1, e⟩)
                · exact .inr (by omega))
            have hbS := hide hb1
            have hB2 := fun (w1 : World) (b1 : Below wi.heap.size wi w1) => hide (hb1.trans (b1.mono hb1.size))
            obtain ⟨mg, hmg⟩ : ∃ mg, mg = meetsF A i false (dd) loose := ⟨_, rfl⟩
            rw [← hmg] at AW
            have HM := hide hmg
            have HDD := hide hdd
            clear hmg hb1 hdd hbS
            cases mg
            · have hs := hide ((unhide hst1).bad (unhide HM).symm (unhide hP))
              clear hst1 hP HM hC
              go_wp2_with (go_at_call 8; refine (AW (unhide hAr)).mono ?_; rintro e w1 ⟨rfl, b1⟩)
              have hb3 := hB2 w1 b1
              clear b1 hB2
              go_roundw
              case rel => exact ⟨t + 1, f1, g1, by omega, by have := unhide HDD; simp; omega, rfl, rfl, unhide hb3, hs⟩
              case measure => have := unhide HDD; simp [intOf]; omega
            · rcases (unhide hst1).cases with rfl | ⟨rfl, hn2⟩
              · rcases hneed with rfl | rfl
                · have hw := hide ((unhide HR).trans (enough1 (unhide HM).symm (unhide hC)))
                  clear hst1 hP HM hC
                  go_wp2_with (go_at_call 8; refine (AW (unhide hAr)).mono ?_; rintro e w1 ⟨rfl, b1⟩)
                  have hb3 := hB2 w1 b1
                  go_ret
                  exact ⟨by rw [unhide hw]; rfl, unhide hb3⟩
                · have hs := hide ((unhide hst1).first (unhide HM).symm (unhide hC) (unhide hP))
                  clear hst1 hP HM hC
                  go_wp2_with (go_at_call 8; refine (AW (unhide hAr)).mono ?_; rintro e w1 ⟨rfl, b1⟩)
                  have hb3 := hB2 w1 b1
                  clear b1 hB2
                  go_roundw
                  case rel => exact ⟨t + 1, 1, dd, by omega, by have := unhide HDD; simp; omega, rfl, rfl, unhide hb3, hs⟩
                  case measure => have := unhide HDD; simp [intOf]; omega
              · subst hn2
                by_cases hxg : dd = g1
                · subst hxg
                  have hs := hide ((unhide hst1).again (unhide hP))
                  clear hst1 hP HM hC
                  go_wp2_with (go_at_call 8; refine (AW (unhide hAr)).mono ?_; rintro e w1 ⟨rfl, b1⟩)
                  have hb3 := hB2 w1 b1
                  clear b1 hB2
                  go_roundw
                  case rel => exact ⟨t + 1, 1, dd, by omega, by have := unhide HDD; simp; omega, rfl, rfl, unhide hb3, hs⟩
                  case measure => have := unhide HDD; simp [intOf]; omega
                · have hw := hide ((unhide HR).trans (enough2 (unhide hst1) hxg (unhide HM).symm (unhide hC)))
                  clear hst1 hP HM hC
                  go_wp2_with (go_at_call 8; refine (AW (unhide hAr)).mono ?_; rintro e w1 ⟨rfl, b1⟩)
                  have hb3 := hB2 w1 b1
                  go_ret
                  exact ⟨by rw [unhide hw]; rfl, unhide hb3⟩
          · have d1 : ¬ dd ≤ 2 := by omega
            have ht' : t = 5 := by omega
            subst ht'
            have hs := hide ((unhide hst1).congr (P' := Cand A i (0 + 1)) (fun x hx => by
              rcases hx with ⟨_, h⟩ | ⟨j, hj, _⟩
              · exact .inr ⟨by omega, by omega⟩
              · omega))
            clear hst1
            have hbS := hide hb1
            go_wp2
            go_roundw
            case rel => exact ⟨1, f1, g1, by omega, by simp, rfl, rfl, unhide hbS, hs⟩
            case measure => simp [intOf]
      · obtain ⟨j, rfl⟩ : ∃ j, k = j + 1 := ⟨k - 1, by omega⟩
        obtain ⟨p0, p1, p2, p3, p4, p5⟩ := unhide HC j (by omega)
        have hbc := fun o => hb.cell (p := ⟨b, o, none⟩) hlt
        rw [← hbc] at p0 p1 p2 p3 p4 p5
        clear hbc
        have hbr : b < wr.heap.size := Nat.lt_of_lt_of_le hlt hb.size
        rw [show ((j + 1 : Nat) : Int) - 1 = (j : Int) by omega] at k2 ⊢
        have j0 : (0 : Int) ≤ (j : Int) := by omega
        have j1 : (j : Int) < (n : Int) := by omega
        have hj1 : wrap64 ((j : Int) + 1) = (j : Int) + 1 := by unfold wrap64; omega
        obtain ⟨aj, haj⟩ : ∃ aj, aj = A j := ⟨_, rfl⟩
        rw [← haj] at p0 p1 p2 p3 p4 p5
        have hcand : candJ A i j ↔ aj.col = ci ∧ aj.nul = false ∧ aj.op ≠ 11 ∧ aj.op ≠ 12 := by rw [haj, unhide HI]; rfl
        have hAn : aj.n = (A j).n := by rw [haj]
        have hbnd := unhide HD j (by omega)
        rw [← hAn] at hbnd
        clear haj hk0
        obtain ⟨col, op, ty, nul, n', str⟩ := aj
        have HN := hide (show n' = (A j).n from hAn)
        clear hAn
        have HB0 := hide (hb.alloc hb.size (.cells #[.int .i64 col, .int .u8 op, .int .u8 ty, .bool nul, .int .i64 n', .string str] 25))
        clear hb
        by_cases hcol : col = ci
        · subst hcol
          cases nul
          · by_cases h11 : op = 11
            · subst h11
              have hs := hide ((unhide hst).congr (P' := Cand A i (j + 1 + 1)) (fun x hx => by
                rcases hx with ⟨_, h⟩ | ⟨j', hj, hcj, h⟩
                · exact .inl ⟨by omega, h⟩
                · by_cases e : j' = j
                  · subst e; exact absurd hcj (fun hcj => (hcand.1 hcj).2.2.1 rfl)
                  · exact .inr ⟨j', by omega, hcj, h⟩))
              clear hst hcand hbnd
              go_wp2
              go_roundw
              case rel => exact ⟨j + 1 + 1, f, g, by omega, by simp, rfl, rfl, unhide HB0, hs⟩
              case measure => simp [intOf]; omega
            · by_cases h12 : op = 12
              · subst h12
                have hs := hide ((unhide hst).congr (P' := Cand A i (j + 1 + 1)) (fun x hx => by
                  rcases hx with ⟨_, h⟩ | ⟨j', hj, hcj, h⟩
                  · exact .inl ⟨by omega, h⟩
                  · by_cases e : j' = j
                    · subst e; exact absurd hcj (fun hcj => (hcand.1 hcj).2.2.2 rfl)
                    · exact .inr ⟨j', by omega, hcj, h⟩))
                clear hst hcand hbnd
                go_wp2
                go_roundw
                case rel => exact ⟨j + 1 + 1, f, g, by omega, by simp, rfl, rfl, unhide HB0, hs⟩
                case measure => simp [intOf]; omega
              · have hcj : candJ A i j := hcand.2 ⟨rfl, rfl, h11, h12⟩
                obtain ⟨hb0, hb9⟩ : -9223372036854775806 ≤ n' ∧ n' ≤ 9223372036854775805 := hbnd hcj
                have HCa := hide (show ∀ x : Int, n' - 2 ≤ x → x ≤ n' + 2 → Cand A i (i + 2) x from fun x h0 h1 => .inr ⟨j, by omega, hcj, by rw [← unhide HN]; omega, by rw [← unhide HN]; omega⟩)
                have h11' : (op == 11) = false := by simp [h11]
                have h12' : (op == 12) = false := by simp [h12]
                clear hcand hbnd hcj
                go_wp2
                go_loopw [10, 11, 15] (fun tf tg d wi => ∃ (t : Nat) (f g : Int), t ≤ 5 ∧ d = .int .i64 ((t : Int) - 2) ∧ tf = .int .i64 f ∧ tg = .int .i64 g ∧ Below w.heap.size w wi ∧ Hid (St A i loose need (fun x => Cand A i (j + 1) x ∨ (n' - 2 ≤ x ∧ x < n' - 2 + (t : Int))) f g)) (fun _ _ d _ => 5 - (intOf d + 2).toNat)
                case atStart => exact ⟨0, f, g, by omega, rfl, rfl, rfl, unhide HB0, hide ((unhide hst).congr fun x hx => hx.elim id (fun h => by omega))⟩
                case round =>
                  obtain ⟨t, f1, g1, ht, rfl, rfl, rfl, hb1, hst1⟩ := hrel
                  clear hst HB0
                  rename World => wi
                  obtain ⟨dd, hdd⟩ : ∃ dd : Int, dd = (t : Int) - 2 := ⟨_, rfl⟩
                  rw [← hdd]
                  by_cases ht5 : t < 5
                  · have d0 : -2 ≤ dd := by omega
                    have d1 : dd ≤ 2 := by omega
                    have hx : wrap64 (n' + dd) = n' + dd := by unfold wrap64; omega
                    have hd1 : wrap64 (dd + 1) = dd + 1 := by unfold wrap64; omega
                    have hAr := hide ((unhide HA).below hb1 (Nat.le_refl _))
                    have AW := fun (H : AtomsAt wi (some ⟨b, off, none⟩) n A) => all_walk (some ⟨b, off, none⟩) n cap A i false (n' + dd) loose wi H hi hn
                    have hC := hide (unhide HCa (n' + dd) (by omega) (by omega))
                    have hP := hide (show ∀ x, (Cand A i (j + 1) x ∨ (n' - 2 ≤ x ∧ x < n' - 2 + ((t + 1 : Nat) : Int))) → (Cand A i (j + 1) x ∨ (n' - 2 ≤ x ∧ x < n' - 2 + (t : Int))) ∨ x = n' + dd from fun x hx => by
                      rcases hx with h | h
                      · exact .inl (.inl h)
                      · by_cases e : x < n' - 2 + (t : Int)
                        · exact .inl (.inr ⟨h.1, e⟩)
                        · exact .inr (by omega))
                    have hbS := hide hb1
                    have hB2 := fun (w1 : World) (b1 : Below wi.heap.size wi w1) => hide (hb1.trans (b1.mono hb1.size))
                    obtain ⟨mg, hmg⟩ : ∃ mg, mg = meetsF A i false (n' + dd) loose := ⟨_, rfl⟩
                    rw [← hmg] at AW
                    have HM := hide hmg
                    have HDD := hide hdd
                    clear hmg hb1 hdd hbS
                    cases mg
                    · have hs := hide ((unhide hst1).bad (unhide HM).symm (unhide hP))
                      clear hst1 hP HM hC
                      go_wp2_with (go_at_call 8; refine (AW (unhide hAr)).mono ?_; rintro e w1 ⟨rfl, b1⟩)
                      have hb3 := hB2 w1 b1
                      clear b1 hB2
                      go_roundw
                      case rel => exact ⟨t + 1, f1, g1, by omega, by have := unhide HDD; simp; omega, rfl, rfl, unhide hb3, hs⟩
                      case measure => have := unhide HDD; simp [intOf]; omega
                    · rcases (unhide hst1).cases with rfl | ⟨rfl, hn2⟩
                      · rcases hneed with rfl | rfl
                        · have hw := hide ((unhide HR).trans (enough1 (unhide HM).symm (unhide hC)))
                          clear hst1 hP HM hC
                          go_wp2_with (go_at_call 8; refine (AW (unhide hAr)).mono ?_; rintro e w1 ⟨rfl, b1⟩)
                          have hb3 := hB2 w1 b1
                          go_ret
                          exact ⟨by rw [unhide hw]; rfl, unhide hb3⟩
                        · have hs := hide ((unhide hst1).first (unhide HM).symm (unhide hC) (unhide hP))
                          clear hst1 hP HM hC
                          go_wp2_with (go_at_call 8; refine (AW (unhide hAr)).mono ?_; rintro e w1 ⟨rfl, b1⟩)
                          have hb3 := hB2 w1 b1
                          clear b1 hB2
                          go_roundw
                          case rel => exact ⟨t + 1, 1, n' + dd, by omega, by have := unhide HDD; simp; omega, rfl, rfl, unhide hb3, hs⟩
                          case measure => have := unhide HDD; simp [intOf]; omega
                      · subst hn2
                        by_cases hxg : n' + dd = g1
                        · subst hxg
                          have hs := hide ((unhide hst1).again (unhide hP))
                          clear hst1 hP HM hC
                          go_wp2_with (go_at_call 8; refine (AW (unhide hAr)).mono ?_; rintro e w1 ⟨rfl, b1⟩)
                          have hb3 := hB2 w1 b1
                          clear b1 hB2
                          go_roundw
                          case rel => exact ⟨t + 1, 1, n' + dd, by omega, by have := unhide HDD; simp; omega, rfl, rfl, unhide hb3, hs⟩
                          case measure => have := unhide HDD; simp [intOf]; omega
                        · have hw := hide ((unhide HR).trans (enough2 (unhide hst1) hxg (unhide HM).symm (unhide hC)))
                          clear hst1 hP HM hC
                          go_wp2_with (go_at_call 8; refine (AW (unhide hAr)).mono ?_; rintro e w1 ⟨rfl, b1⟩)
                          have hb3 := hB2 w1 b1
                          go_ret
                          exact ⟨by rw [unhide hw]; rfl, unhide hb3⟩
                  · have d1 : ¬ dd ≤ 2 := by omega
                    have ht' : t = 5 := by omega
                    subst ht'
                    have hs := hide ((unhide hst1).congr (P' := Cand A i (j + 1 + 1)) (fun x hx => by
                      rcases hx with ⟨_, h⟩ | ⟨j', hj, hcj, h⟩
                      · exact .inl (.inl ⟨by omega, h⟩)
                      · by_cases e : j' = j
                        · subst e; rw [← unhide HN] at h; exact .inr ⟨by omega, by omega⟩
                        · exact .inl (.inr ⟨j', by omega, hcj, h⟩)))
                    clear hst1
                    have hbS := hide hb1
                    clear hb1
                    go_wp2
                    go_roundw
                    case rel => exact ⟨j + 1 + 1, f1, g1, by omega, by simp, rfl, rfl, unhide hbS, hs⟩
                    case measure => simp [intOf]; omega
          · have hs0 : ¬ candJ A i j := fun hcj => by have := (hcand.1 hcj).2.1; cases this
            have hs := hide ((unhide hst).congr (P' := Cand A i (j + 1 + 1)) (fun x hx => by
              rcases hx with ⟨_, h⟩ | ⟨j', hj, hcj, h⟩
              · exact .inl ⟨by omega, h⟩
              · by_cases e : j' = j
                · subst e; exact absurd hcj (fun hcj => hs0 hcj)
                · exact .inr ⟨j', by omega, hcj, h⟩))
            clear hst hcand hbnd hs0
            go_wp2
            go_roundw
            case rel => exact ⟨j + 1 + 1, f, g, by omega, by simp, rfl, rfl, unhide HB0, hs⟩
            case measure => simp [intOf]; omega
        · have hs0 : ¬ candJ A i j := fun hcj => hcol (hcand.1 hcj).1
          have hs := hide ((unhide hst).congr (P' := Cand A i (j + 1 + 1)) (fun x hx => by
            rcases hx with ⟨_, h⟩ | ⟨j', hj, hcj, h⟩
            · exact .inl ⟨by omega, h⟩
            · by_cases e : j' = j
              · subst e; exact absurd hcj (fun hcj => hs0 hcj)
              · exact .inr ⟨j', by omega, hcj, h⟩))
          clear hst hcand hbnd hs0
          go_wp2
          go_roundw
          case rel => exact ⟨j + 1 + 1, f, g, by omega, by simp, rfl, rfl, unhide HB0, hs⟩
          case measure => simp [intOf]; omega
    · have k2 : ¬ (k : Int) - 1 ≤ (i : Int) := by omega
      have hk' : k = i + 2 := by omega
      subst hk'
      have hw := hide ((unhide HR).trans (enough_not (unhide hst)))
      clear hst
      go_wp2
      go_ret
      exact ⟨by rw [unhide hw]; rfl, hb⟩

end Go.Proofs.Qxb6623474aDoor
