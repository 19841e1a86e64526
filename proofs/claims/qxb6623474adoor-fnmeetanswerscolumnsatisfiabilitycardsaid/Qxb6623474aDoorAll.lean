/-
  zzMeetsAll (8): the loop over the atoms of a column.
-/
import Derived.Test.Qxb6623474aDoorHolds
import Derived.WalkKit
import Derived.WalkSpells
import Derived.WalkLawsBesides
import Derived.WalkSmall
set_option linter.unusedVariables false
namespace Go.Proofs.Qxb6623474aDoor
open Go.RowKit

/-- Kept out of the walk's sight. -/
def Hid (p : Prop) : Prop := p
theorem hide {p : Prop} (h : p) : Hid p := h
theorem unhide {p : Prop} (h : Hid p) : p := h

/-- The atoms of a slice, by index. -/
def AtomsAt (w : World) (a : Option Addr) (n : Nat) (A : Nat → Atom) : Prop :=
  n = 0 ∨ ∃ b off, a = some ⟨b, off, none⟩ ∧ b < w.heap.size ∧ ∀ i, i < n →
    w.cell? ⟨b, off + i * 6, none⟩ = some (.int .i64 (A i).col) ∧ w.cell? ⟨b, off + i * 6 + 1, none⟩ = some (.int .u8 (A i).op) ∧ w.cell? ⟨b, off + i * 6 + 2, none⟩ = some (.int .u8 (A i).ty) ∧
    w.cell? ⟨b, off + i * 6 + 3, none⟩ = some (.bool (A i).nul) ∧ w.cell? ⟨b, off + i * 6 + 4, none⟩ = some (.int .i64 (A i).n) ∧ w.cell? ⟨b, off + i * 6 + 5, none⟩ = some (.string (A i).str)

theorem AtomsAt.below {B : Nat} {w w' : World} {a : Option Addr} {n : Nat} {A : Nat → Atom} (h : AtomsAt w a n A) (hb : Below B w w') (hB : w.heap.size ≤ B) : AtomsAt w' a n A := by
  rcases h with h | ⟨b, off, ha, hlt, hc⟩
  · exact .inl h
  · have k := fun (o : Nat) => hb.cell (p := ⟨b, o, none⟩) (Nat.lt_of_lt_of_le hlt hB)
    refine .inr ⟨b, off, ha, Nat.lt_of_lt_of_le hlt hb.size, fun i hi => ?_⟩
    obtain ⟨h0, h1, h2, h3, h4, h5⟩ := hc i hi
    exact ⟨(k _).trans h0, (k _).trans h1, (k _).trans h2, (k _).trans h3, (k _).trans h4, (k _).trans h5⟩

def allB (f : Nat → Bool) : Nat → Bool
  | 0 => true
  | k + 1 => allB f k && f k
theorem allB_true {f : Nat → Bool} {k : Nat} (h : ∀ j, j < k → f j = true) : allB f k = true := by
  induction k with
  | zero => rfl
  | succ k ih => simp [allB, ih (fun j hj => h j (by omega)), h k (by omega)]
theorem allB_false {f : Nat → Bool} {k : Nat} (j : Nat) (hj : j < k) (h : f j = false) : allB f k = false := by
  induction k with
  | zero => omega
  | succ k ih =>
    by_cases e : j = k
    · subst e; simp [allB, h]
    · simp [allB, ih (by omega)]
theorem allB_iff {f : Nat → Bool} {k : Nat} : allB f k = true ↔ ∀ j, j < k → f j = true := by
  constructor
  · intro h j hj
    cases hf : f j with
    | true => rfl
    | false => rw [allB_false j hj hf] at h; cases h
  · exact allB_true

def okAt (A : Nat → Atom) (i : Nat) (null : Bool) (x : Int) (loose : Bool) (j : Nat) : Bool :=
  if (A j).col = (A i).col then (if loose = true ∧ (A j).op = 3 ∧ (A j).nul = false then true else holdsF (A j) null x) else true
def meetsF (A : Nat → Atom) (i : Nat) (null : Bool) (x : Int) (loose : Bool) : Bool := allB (okAt A i null x loose) (i + 1)

set_option maxHeartbeats 2000000 in
set_option maxRecDepth 100000 in
theorem all_walk (a : Option Addr) (n cap : Nat) (A : Nat → Atom) (i : Nat) (null : Bool) (x : Int) (loose : Bool) (w : World) (ha : AtomsAt w a n A) (hi : i < n) (hn : n ≤ 512) :
    Calls Tryd.prog 8 #[.slice a n cap, .int .i64 i, .bool null, .int .i64 x, .bool loose] w fun e w' => e = .returned (.bool (meetsF A i null x loose)) ∧ Below w.heap.size w w' := by
  rcases ha with h | ⟨b, off, rfl, hlt, hc⟩
  · omega
  obtain ⟨q0, -, -, -, -, -⟩ := hc i hi
  have HC := hide hc
  clear hc
  have i0 : (0 : Int) ≤ (i : Int) := by omega
  have i1 : (i : Int) < (n : Int) := by omega
  obtain ⟨ci, hci⟩ : ∃ ci, ci = (A i).col := ⟨_, rfl⟩
  rw [← hci] at q0
  have HI := hide hci
  clear hci
  have hdef : ∀ r, r = meetsF A i null x loose → Hid (r = meetsF A i null x loose) := fun r h => h
  obtain ⟨r, hr⟩ : ∃ r, r = meetsF A i null x loose := ⟨_, rfl⟩
  rw [← hr]
  have HR := hide hr
  clear hr hdef
  go_enter Tryd.func8, Tryd.ntmps8
  go_wp2
  go_loopw [12] (fun c wr => ∃ k : Nat, k ≤ i + 1 ∧ c = .int .i64 k ∧ Below w.heap.size w wr ∧ Hid (∀ j, j < k → okAt A i null x loose j = true)) (fun c _ => i + 1 - (intOf c).toNat)
  case atStart => exact ⟨0, by omega, rfl, Below.refl _ _, hide fun j hj => absurd hj (Nat.not_lt_zero _)⟩
  case round =>
    obtain ⟨k, hk, rfl, hb, hall⟩ := hrel
    by_cases hlk : k < i + 1
    · obtain ⟨p0, p1, p2, p3, p4, p5⟩ := unhide HC k (by omega)
      have hbc := fun o => hb.cell (p := ⟨b, o, none⟩) hlt
      rw [← hbc] at p0 p1 p2 p3 p4 p5
      clear hbc
      have hbr : b < wr.heap.size := Nat.lt_of_lt_of_le hlt hb.size
      have k0 : (0 : Int) ≤ (k : Int) := by omega
      have k1 : (k : Int) < (n : Int) := by omega
      have k2 : (k : Int) ≤ (i : Int) := by omega
      have hok : ∀ (B : Bool), okAt A i null x loose k = B → Hid (okAt A i null x loose k = B) := fun B h => h
      obtain ⟨ak, hak⟩ : ∃ ak, ak = A k := ⟨_, rfl⟩
      rw [← hak] at p0 p1 p2 p3 p4 p5
      have hok : okAt A i null x loose k = if ak.col = ci then (if loose = true ∧ ak.op = 3 ∧ ak.nul = false then true else holdsF ak null x) else true := by
        rw [hak, unhide HI]; rfl
      have HK := hide hok
      clear hok hak
      have hbA : ∀ o, Below w.heap.size w (wr.alloc o) := fun o => hb.alloc hb.size o
      obtain ⟨col, op, ty, nul, n', str⟩ := ak
      have stepT : okAt A i null x loose k = true → Hid (∀ j, j < k + 1 → okAt A i null x loose j = true) := fun h j hj => by
        by_cases e : j < k
        · exact unhide hall j e
        · have : j = k := by omega
          subst this; exact h
      have stepF : okAt A i null x loose k = false → r = false := fun h => (unhide HR).trans (allB_false k (by omega) h)
      by_cases hcol : col = ci
      · have hh : (loose = true ∧ op = 3 ∧ nul = false) ∨ ((loose = false ∨ (loose = true ∧ op ≠ 3) ∨ (loose = true ∧ op = 3 ∧ nul = true)) ∧ okAt A i null x loose k = holdsF ⟨col, op, ty, nul, n', str⟩ null x) := by
          cases loose
          · exact .inr ⟨.inl rfl, by rw [unhide HK]; simp [hcol]⟩
          · by_cases h3 : op = 3
            · cases nul
              · exact .inl ⟨rfl, h3, rfl⟩
              · exact .inr ⟨.inr (.inr ⟨rfl, h3, rfl⟩), by rw [unhide HK]; simp [hcol]⟩
            · exact .inr ⟨.inr (.inl ⟨rfl, h3⟩), by rw [unhide HK]; simp [hcol, h3]⟩
        rcases hh with ⟨hl, h3, hnul⟩ | ⟨hg, hok⟩
        · have hs := stepT (by rw [unhide HK]; simp [hcol, hl, h3, hnul])
          clear stepT stepF HK
          subst hl h3 hnul hcol
          have hb1 := hide (hbA (.cells #[.int .i64 col, .int .u8 3, .int .u8 ty, .bool false, .int .i64 n', .string str] 25))
          clear hbA
          go_wp2
          go_roundw
          case rel => exact ⟨k + 1, by omega, by go_num, unhide hb1, hs⟩
          case measure => simp [intOf]; omega
        · obtain ⟨hv, hhv⟩ : ∃ hv, hv = holdsF ⟨col, op, ty, nul, n', str⟩ null x := ⟨_, rfl⟩
          have HW := fun w' => holds_walk ⟨col, op, ty, nul, n', str⟩ null x w'
          rw [← hhv] at hok HW
          have hbO := hbA (.cells #[.int .i64 col, .int .u8 op, .int .u8 ty, .bool nul, .int .i64 n', .string str] 25)
          clear HK hhv hbA
          rw [hok] at stepT stepF
          clear hok
          subst hcol
          cases hv
          · have hr := hide (stepF rfl)
            clear stepT stepF
            rcases hg with rfl | ⟨rfl, h3⟩ | ⟨rfl, rfl, rfl⟩ <;>
            · go_wp2_with (go_at_call 11; refine (HW _).mono ?_; rintro e w1 ⟨rfl, b1⟩)
              go_ret
              exact ⟨by rw [unhide hr]; rfl, hbO.trans (b1.mono (by have := hb.size; simp; omega))⟩
          · have hs := hide (stepT rfl)
            clear stepT stepF
            rcases hg with rfl | ⟨rfl, h3⟩ | ⟨rfl, rfl, rfl⟩ <;>
            · go_wp2_with (go_at_call 11; refine (HW _).mono ?_; rintro e w1 ⟨rfl, b1⟩)
              have hb1 := hide (hbO.trans (b1.mono (by have := hb.size; simp; omega)))
              clear b1 hbO
              go_roundw
              case rel => exact ⟨k + 1, by omega, by go_num, unhide hb1, unhide hs⟩
              case measure => simp [intOf]; omega
      · have hs := stepT (by rw [unhide HK]; simp [hcol])
        have hb1 := hide (hbA (.cells #[.int .i64 col, .int .u8 op, .int .u8 ty, .bool nul, .int .i64 n', .string str] 25))
        clear stepT stepF HK hbA
        go_wp2
        go_roundw
        case rel => exact ⟨k + 1, by omega, by go_num, unhide hb1, hs⟩
        case measure => simp [intOf]; omega
    · have k2 : ¬ (k : Int) ≤ (i : Int) := by omega
      go_wp2
      go_ret
      exact ⟨by rw [unhide HR]; unfold meetsF; rw [allB_true fun j hj => unhide hall j (by omega)]; rfl, hb⟩

end Go.Proofs.Qxb6623474aDoor
