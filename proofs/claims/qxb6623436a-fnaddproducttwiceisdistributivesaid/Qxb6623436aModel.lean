/-
  zzMulAddModel.
-/
import Derived.Test.Qxb6623436aAddP
import Derived.Test.Qxb6623436aVal
import Derived.Deep.QuietTactic
import Derived.BigQuiet
import Derived.WalkSmall
set_option linter.unusedVariables false
namespace Go.Proofs.Qxb6623436a
open Go.RowKit

/-- Ten limbs lie in block b, and may be written. -/
def Row10 (w : World) (b : Nat) (P : Nat → Int) : Prop := ∀ k, k < 10 → w.cell? ⟨b, k, none⟩ = some (.int .u64 (P k)) ∧ w.frozen? ⟨b, k, none⟩ = false

def Limb (x : Int) : Prop := 0 ≤ x ∧ x < 4294967296

/-- What lies where, at the loops' start. -/
theorem start_facts (w : World) (ca cb cr cp : Array Value) (ta tb tr tp : TypeId) :
    Below w.heap.size w ((((w.alloc (.cells ca ta)).alloc (.cells cb tb)).alloc (.cells cr tr)).alloc (.cells cp tp)) ∧
    ((((w.alloc (.cells ca ta)).alloc (.cells cb tb)).alloc (.cells cr tr)).alloc (.cells cp tp)).heap.size = w.heap.size + 4 ∧
    ((((w.alloc (.cells ca ta)).alloc (.cells cb tb)).alloc (.cells cr tr)).alloc (.cells cp tp)).heap[w.heap.size]? = some (.cells ca ta (0, 0)) ∧
    ((((w.alloc (.cells ca ta)).alloc (.cells cb tb)).alloc (.cells cr tr)).alloc (.cells cp tp)).heap[w.heap.size + 1]? = some (.cells cb tb (0, 0)) ∧
    ((((w.alloc (.cells ca ta)).alloc (.cells cb tb)).alloc (.cells cr tr)).alloc (.cells cp tp)).heap[w.heap.size + 1 + 1]? = some (.cells cr tr (0, 0)) ∧
    ((((w.alloc (.cells ca ta)).alloc (.cells cb tb)).alloc (.cells cr tr)).alloc (.cells cp tp)).heap[w.heap.size + 1 + 1 + 1]? = some (.cells cp tp (0, 0)) := by
  refine ⟨((((Below.refl _ _).alloc (Nat.le_refl _) _).alloc (by simp) _).alloc (by simp; omega) _).alloc (by simp; omega) _, by simp, ?_, ?_, ?_, ?_⟩
  · rw [Below.heap_alloc _ _ _ (by simp; omega), Below.heap_alloc _ _ _ (by simp; omega), Below.heap_alloc _ _ _ (by simp)]
    exact heap_alloc_new w _
  · rw [Below.heap_alloc _ _ _ (by simp), Below.heap_alloc _ _ _ (by simp)]
    have := heap_alloc_new (w.alloc (.cells ca ta)) (.cells cb tb)
    simpa using this
  · rw [Below.heap_alloc _ _ _ (by simp)]
    have := heap_alloc_new ((w.alloc (.cells ca ta)).alloc (.cells cb tb)) (.cells cr tr)
    simpa using this
  · have := heap_alloc_new (((w.alloc (.cells ca ta)).alloc (.cells cb tb)).alloc (.cells cr tr)) (.cells cp tp)
    simpa using this

theorem four (A : Nat → Int) (i : Nat) (h : i < 4) : (#[Value.int .u64 (A 0), .int .u64 (A 1), .int .u64 (A 2), .int .u64 (A 3)] : Array Value)[i]? = some (.int .u64 (A i)) := by
  match i, h with
  | 0, _ => rfl
  | 1, _ => rfl
  | 2, _ => rfl
  | 3, _ => rfl

theorem five (B : Nat → Int) (i : Nat) (h : i < 5) : (#[Value.int .u64 (B 0), .int .u64 (B 1), .int .u64 (B 2), .int .u64 (B 3), .int .u64 (B 4)] : Array Value)[i]? = some (.int .u64 (B i)) := by
  match i, h with
  | 0, _ => rfl
  | 1, _ => rfl
  | 2, _ => rfl
  | 3, _ => rfl
  | 4, _ => rfl

theorem ten (B : Nat → Int) (i : Nat) (h : i < 10) : (#[Value.int .u64 (B 0), .int .u64 (B 1), .int .u64 (B 2), .int .u64 (B 3), .int .u64 (B 4), .int .u64 (B 5), .int .u64 (B 6), .int .u64 (B 7), .int .u64 (B 8), .int .u64 (B 9)] : Array Value)[i]? = some (.int .u64 (B i)) := by
  match i, h with
  | 0, _ => rfl
  | 1, _ => rfl
  | 2, _ => rfl
  | 3, _ => rfl
  | 4, _ => rfl
  | 5, _ => rfl
  | 6, _ => rfl
  | 7, _ => rfl
  | 8, _ => rfl
  | 9, _ => rfl

theorem cell_of_blk {w : World} {b k : Nat} {c : Array Value} {t : TypeId} {v : Value} (h : w.heap[b]? = some (.cells c t (0, 0))) (hv : c[k]? = some v) : w.cell? ⟨b, k, none⟩ = some v := by
  rw [cell_of_row w b k c t (0, 0) h, hv]

theorem frozen_of_blk {w : World} {b k : Nat} {c : Array Value} {t : TypeId} (h : w.heap[b]? = some (.cells c t (0, 0))) : w.frozen? ⟨b, k, none⟩ = false := by
  simp [World.frozen?, h]

theorem Row10.set {w : World} {b : Nat} {P : Nat → Int} (h : Row10 w b P) {k : Nat} (hk : k < 10) (v : Int) : Row10 (w.setCell ⟨b, k, none⟩ (.int .u64 v)) b (upd P k v) := by
  intro j hj
  refine ⟨?_, by rw [World.frozen?_setCell]; exact (h j hj).2⟩
  by_cases e : j = k
  · subst e
    rw [World.cell?_setCell_same _ _ _ (h j hj).1]
    simp [upd]
  · rw [World.cell?_setCell_other _ _ _ _ (by intro e'; injection e' with _ e2; exact e e2.symm), (h j hj).1]
    simp [upd, e]

theorem limb_upd {P : Nat → Int} (h : ∀ k, Limb (P k)) (k : Nat) {v : Int} (hv : Limb v) : ∀ j, Limb (upd P k v j) := by
  intro j
  unfold upd
  split
  · exact hv
  · exact h j

/-- One limb's step: what is kept, what is carried. -/
theorem limb_step {a b p c : Int} (ha : Limb a) (hb : Limb b) (hp : Limb p) (hc : Limb c) :
    0 ≤ a * b ∧ a * b ≤ 18446744065119617025 ∧ 0 ≤ a * b + p + c ∧ a * b + p + c < 18446744073709551616 := by
  obtain ⟨h1, h2⟩ := ha
  obtain ⟨h3, h4⟩ := hb
  obtain ⟨h5, h6⟩ := hp
  obtain ⟨h7, h8⟩ := hc
  have b1 : a * b ≤ 4294967295 * 4294967295 := Int.mul_le_mul (by omega) (by omega) h3 (by omega)
  have b0 : 0 ≤ a * b := Int.mul_nonneg h1 h3
  omega

theorem mask_int (t : Int) (h0 : 0 ≤ t) (h1 : t < 18446744073709551616) : bits .and .u64 t 4294967295 = t % 4294967296 := by
  obtain ⟨n, rfl⟩ := Int.eq_ofNat_of_zero_le h0
  rw [maskN n (by omega)]
  omega

theorem or_int {a b : Int} (ha : Limb a) (hb : Limb b) : bits .or .u64 a (IntKind.u64.wrap (b * 4294967296)) = a + 4294967296 * b := by
  obtain ⟨h1, h2⟩ := ha
  obtain ⟨h3, h4⟩ := hb
  obtain ⟨n, rfl⟩ := Int.eq_ofNat_of_zero_le h1
  obtain ⟨m, rfl⟩ := Int.eq_ofNat_of_zero_le h3
  have e : IntKind.u64.wrap ((m : Int) * 4294967296) = ((m <<< 32 : Nat) : Int) := by
    rw [IntKind.wrap_u64, Nat.shiftLeft_eq]; omega
  rw [e, bits_or_u64_nat n (m <<< 32) (by omega) (by rw [Nat.shiftLeft_eq]; omega)]
  have := Nat.shiftLeft_add_eq_or_of_lt (i := 32) (b := n) (by omega) m
  rw [Nat.or_comm, ← this, Nat.shiftLeft_eq]
  omega

/-- The limbs of five words. -/
def sl (s0 s1 s2 s3 s4 : Int) : Nat → Int
  | 0 => s0 % 4294967296
  | 1 => s0 / 4294967296
  | 2 => s1 % 4294967296
  | 3 => s1 / 4294967296
  | 4 => s2 % 4294967296
  | 5 => s2 / 4294967296
  | 6 => s3 % 4294967296
  | 7 => s3 / 4294967296
  | 8 => s4 % 4294967296
  | 9 => s4 / 4294967296
  | _ => 0

theorem sl_limb {s0 s1 s2 s3 s4 : Int} (h0 : Word s0) (h1 : Word s1) (h2 : Word s2) (h3 : Word s3) (h4 : Word s4) : ∀ k, Limb (sl s0 s1 s2 s3 s4 k) := by
  obtain ⟨_, _⟩ := h0; obtain ⟨_, _⟩ := h1; obtain ⟨_, _⟩ := h2; obtain ⟨_, _⟩ := h3; obtain ⟨_, _⟩ := h4
  intro k
  unfold sl Limb
  split <;> omega

theorem sl_val (s0 s1 s2 s3 s4 : Int) : val (sl s0 s1 s2 s3 s4) 10 = V s0 s1 s2 s3 s4 := by
  simp only [val, pw, sl, V]
  omega

theorem end_val {S : Nat → Int} (hS : ∀ k, Limb (S k)) {c Z : Int} (h : val S 10 + c * pw 10 = Z) :
    (Word (S 0 + 4294967296 * S 1) ∧ Word (S 2 + 4294967296 * S 3) ∧ Word (S 4 + 4294967296 * S 5) ∧ Word (S 6 + 4294967296 * S 7) ∧ Word (S 8 + 4294967296 * S 9)) ∧
    V (S 0 + 4294967296 * S 1) (S 2 + 4294967296 * S 3) (S 4 + 4294967296 * S 5) (S 6 + 4294967296 * S 7) (S 8 + 4294967296 * S 9) = Z % N320 := by
  obtain ⟨_, _⟩ := hS 0; obtain ⟨_, _⟩ := hS 1; obtain ⟨_, _⟩ := hS 2; obtain ⟨_, _⟩ := hS 3; obtain ⟨_, _⟩ := hS 4
  obtain ⟨_, _⟩ := hS 5; obtain ⟨_, _⟩ := hS 6; obtain ⟨_, _⟩ := hS 7; obtain ⟨_, _⟩ := hS 8; obtain ⟨_, _⟩ := hS 9
  refine ⟨⟨⟨by omega, by omega⟩, ⟨by omega, by omega⟩, ⟨by omega, by omega⟩, ⟨by omega, by omega⟩, ⟨by omega, by omega⟩⟩, ?_⟩
  simp only [val, pw] at h
  unfold V N320
  omega

set_option maxHeartbeats 4000000 in
theorem model_any (s0 s1 s2 s3 s4 : Int) (h0 : Word s0) (h1 : Word s1) (h2 : Word s2) (h3 : Word s3) (h4 : Word s4) (A B : Nat → Int) (hA : ∀ k, Limb (A k)) (hB : ∀ k, Limb (B k)) (w : World) :
    Calls Try.prog 9 #[.int .u64 s0, .int .u64 s1, .int .u64 s2, .int .u64 s3, .int .u64 s4, .agg #[.int .u64 (A 0), .int .u64 (A 1), .int .u64 (A 2), .int .u64 (A 3)], .agg #[.int .u64 (B 0), .int .u64 (B 1), .int .u64 (B 2), .int .u64 (B 3), .int .u64 (B 4)]] w fun e w' => ∃ x0 x1 x2 x3 x4 : Int, e = .returned (.agg #[.int .u64 x0, .int .u64 x1, .int .u64 x2, .int .u64 x3, .int .u64 x4]) ∧ (Word x0 ∧ Word x1 ∧ Word x2 ∧ Word x3 ∧ Word x4) ∧ Hid (V x0 x1 x2 x3 x4 = (V s0 s1 s2 s3 s4 + val A 4 * val B 5) % N320) ∧ Below w.heap.size w w' := by
  go_enter Try.func9, Try.ntmps9
  go_wp2
  obtain ⟨fb, fz, fa, fbb, fr, fp⟩ := start_facts w #[.int .u64 (A 0), .int .u64 (A 1), .int .u64 (A 2), .int .u64 (A 3)] #[.int .u64 (B 0), .int .u64 (B 1), .int .u64 (B 2), .int .u64 (B 3), .int .u64 (B 4)] #[.int .u64 0, .int .u64 0, .int .u64 0, .int .u64 0, .int .u64 0] #[.int .u64 0, .int .u64 0, .int .u64 0, .int .u64 0, .int .u64 0, .int .u64 0, .int .u64 0, .int .u64 0, .int .u64 0, .int .u64 0] 30 32 32 42
  generalize (((w.alloc (Obj.cells #[.int .u64 (A 0), .int .u64 (A 1), .int .u64 (A 2), .int .u64 (A 3)] 30)).alloc (Obj.cells #[.int .u64 (B 0), .int .u64 (B 1), .int .u64 (B 2), .int .u64 (B 3), .int .u64 (B 4)] 32)).alloc (Obj.cells #[.int .u64 0, .int .u64 0, .int .u64 0, .int .u64 0, .int .u64 0] 32)).alloc (Obj.cells #[.int .u64 0, .int .u64 0, .int .u64 0, .int .u64 0, .int .u64 0, .int .u64 0, .int .u64 0, .int .u64 0, .int .u64 0, .int .u64 0] 42) = W at *
  have cA : ∀ i, i < 4 → W.cell? ⟨w.heap.size, i, none⟩ = some (.int .u64 (A i)) := fun i hi => cell_of_blk fa (four A i hi)
  have cB : ∀ i, i < 5 → W.cell? ⟨w.heap.size + 1, i, none⟩ = some (.int .u64 (B i)) := fun i hi => cell_of_blk fbb (five B i hi)
  have cR : ∀ i, i < 5 → W.cell? ⟨w.heap.size + 1 + 1, i, none⟩ = some (.int .u64 0) ∧ W.frozen? ⟨w.heap.size + 1 + 1, i, none⟩ = false := fun i hi => ⟨cell_of_blk fr (five (fun _ => 0) i hi), frozen_of_blk fr⟩
  have cP : Row10 W (w.heap.size + 1 + 1 + 1) (fun _ => 0) := fun k hk => ⟨cell_of_blk fp (ten (fun _ => 0) k hk), frozen_of_blk fp⟩
  have HcA := hide cA; have HcB := hide cB; have HcR := hide cR; have Hfb := hide fb; have HA := hide hA; have HB := hide hB; have Hfz := hide fz
  clear fa fbb fr fp cA cB cR fb hA hB fz
  go_loopw [16] (fun c wr => ∃ (i : Nat) (P : Nat → Int), i ≤ 4 ∧ c = .int .i64 i ∧ Row10 wr (w.heap.size + 1 + 1 + 1) P ∧ (∀ k, Limb (P k)) ∧ (∀ k, i + 5 ≤ k → P k = 0) ∧ Hid (val P 10 = val A i * val B 5) ∧ Below (w.heap.size + 1 + 1 + 1) W wr) (fun c _ => 4 - (intOf c).toNat)
  case atStart => exact ⟨0, fun _ => 0, by omega, rfl, cP, fun _ => ⟨by show (0 : Int) ≤ 0; omega, by show (0 : Int) < 4294967296; omega⟩, fun _ _ => rfl, hide (by simp [val]), Below.refl _ _⟩
  case round =>
    obtain ⟨i, P, hi, rfl, hrow, hlim, hzero, hval, hbl⟩ := hrel
    clear cP
    by_cases hi4 : i < 4
    · have HP := hide (And.intro hrow (And.intro hlim hzero))
      clear hrow hlim hzero
      go_wp2_with fail
      go_loopw [17, 18] (fun cc cj wx => ∃ (j : Nat) (c : Int) (Q : Nat → Int), j ≤ 5 ∧ cj = .int .i64 j ∧ cc = .int .u64 c ∧ Limb c ∧ Hid (Row10 wx (w.heap.size + 1 + 1 + 1) Q ∧ (∀ k, Limb (Q k)) ∧ (∀ k, i + 5 ≤ k → Q k = 0)) ∧ Hid (val Q 10 + c * pw (i + j) = val A i * val B 5 + A i * (pw i * val B j)) ∧ Below (w.heap.size + 1 + 1 + 1) W wx) (fun _ cj _ => 5 - (intOf cj).toNat)
      case atStart => exact ⟨0, 0, P, by omega, rfl, rfl, ⟨by omega, by omega⟩, HP, hide (by show val P 10 + 0 * pw (i + 0) = val A i * val B 5 + A i * (pw i * 0); rw [unhide hval, Int.zero_mul, Int.mul_zero, Int.mul_zero]), hbl⟩
      case round =>
        obtain ⟨j, c, Q, hj, rfl, rfl, hc, HQ, hvQ, hbQ⟩ := hrel
        clear HP hbl
        by_cases hj5 : j < 5
        · have g1 : wr.cell? ⟨w.heap.size, i, none⟩ = some (.int .u64 (A i)) := by rw [hbQ.cell (by show w.heap.size < _; omega)]; exact unhide HcA i hi4
          have g2 : wr.cell? ⟨w.heap.size + 1, j, none⟩ = some (.int .u64 (B j)) := by rw [hbQ.cell (by show w.heap.size + 1 < _; omega)]; exact unhide HcB j hj5
          obtain ⟨g3, g4⟩ := (unhide HQ).1 (i + j) (by omega)
          have lq := (unhide HQ).2.1 (i + j)
          obtain ⟨y1, y2, y3, y4⟩ := limb_step (unhide HA i) (unhide HB j) lq hc
          have hi0 : (0 : Int) ≤ (i : Int) := by omega
          have hi4' : (i : Int) < 4 := by omega
          have hj0 : (0 : Int) ≤ (j : Int) := by omega
          have hj5' : (j : Int) < 5 := by omega
          have hT : IntKind.u64.wrap (IntKind.u64.wrap (A i * B j + Q (i + j)) + c) = A i * B j + Q (i + j) + c := by
            rw [IntKind.wrap_u64, IntKind.wrap_u64]; have := lq.1; have := hc.1; omega
          have HT := hide hT
          clear hT
          go_wp2
          go_quiet (fail)
          go_wp2
          go_roundw
          case rel =>
            rw [unhide HT, mask_int _ y3 y4]
            have hl1 : Limb ((A i * B j + Q (i + j) + c) % 4294967296) := ⟨by omega, by omega⟩
            refine ⟨j + 1, _, upd Q (i + j) ((A i * B j + Q (i + j) + c) % 4294967296), by omega, by go_num, rfl, ⟨by omega, by omega⟩, hide ⟨Row10.set (unhide HQ).1 (by omega) _, limb_upd (unhide HQ).2.1 _ hl1, fun k hk => ?_⟩, hide ?_, Below.setCell (p := ⟨w.heap.size + 1 + 1 + 1, i + j, none⟩) (below_drewN hbQ _) (Nat.le_refl _) _⟩
            · unfold upd
              rw [if_neg (by omega)]
              exact (unhide HQ).2.2 k hk
            · exact inner_val (by omega) (unhide hvQ)
          case measure => simp [intOf]; omega
        · have ej : j = 5 := by omega
          subst ej
          obtain ⟨g3, g4⟩ := (unhide HQ).1 (i + 5) (by omega)
          have hi0 : (0 : Int) ≤ (i : Int) := by omega
          have hi4' : (i : Int) < 4 := by omega
          go_wp2
          go_roundw
          case rel =>
            refine ⟨i + 1, upd Q (i + 5) c, by omega, by go_num, Row10.set (unhide HQ).1 (by omega) _, limb_upd (unhide HQ).2.1 _ hc, fun k hk => ?_, hide ?_, Below.setCell (p := ⟨w.heap.size + 1 + 1 + 1, i + 5, none⟩) hbQ (Nat.le_refl _) _⟩
            · unfold upd
              rw [if_neg (by omega)]
              exact (unhide HQ).2.2 k (by omega)
            · exact outer_val hi4 ((unhide HQ).2.2 (i + 5) (by omega)) (unhide hvQ)
          case measure => simp [intOf]; omega
    · have ei : i = 4 := by omega
      subst ei
      have m0 := mask_int s0 h0.1 h0.2
      have m1 := mask_int s1 h1.1 h1.2
      have m2 := mask_int s2 h2.1 h2.2
      have m3 := mask_int s3 h3.1 h3.2
      have m4 := mask_int s4 h4.1 h4.2
      go_wp2
      have X1 : Row10 (wr.alloc (Obj.cells #[.int .u64 (s0 % 4294967296), .int .u64 (s0 / 4294967296), .int .u64 (s1 % 4294967296), .int .u64 (s1 / 4294967296), .int .u64 (s2 % 4294967296), .int .u64 (s2 / 4294967296), .int .u64 (s3 % 4294967296), .int .u64 (s3 / 4294967296), .int .u64 (s4 % 4294967296), .int .u64 (s4 / 4294967296)] 42)) wr.heap.size (sl s0 s1 s2 s3 s4) :=
        fun k hk => ⟨cell_of_blk (heap_alloc_new wr _) (ten (sl s0 s1 s2 s3 s4) k hk), frozen_of_blk (heap_alloc_new wr _)⟩
      have X2 : Below wr.heap.size wr (wr.alloc (Obj.cells #[.int .u64 (s0 % 4294967296), .int .u64 (s0 / 4294967296), .int .u64 (s1 % 4294967296), .int .u64 (s1 / 4294967296), .int .u64 (s2 % 4294967296), .int .u64 (s2 / 4294967296), .int .u64 (s3 % 4294967296), .int .u64 (s3 / 4294967296), .int .u64 (s4 % 4294967296), .int .u64 (s4 / 4294967296)] 42)) := (Below.refl _ _).alloc (Nat.le_refl _) _
      generalize wr.alloc (Obj.cells #[.int .u64 (s0 % 4294967296), .int .u64 (s0 / 4294967296), .int .u64 (s1 % 4294967296), .int .u64 (s1 / 4294967296), .int .u64 (s2 % 4294967296), .int .u64 (s2 / 4294967296), .int .u64 (s3 % 4294967296), .int .u64 (s3 / 4294967296), .int .u64 (s4 % 4294967296), .int .u64 (s4 / 4294967296)] 42) = X at *
      have hwz : w.heap.size + 4 ≤ wr.heap.size := by have := hbl.size; rw [unhide Hfz] at this; exact this
      have SL := sl_limb h0 h1 h2 h3 h4
      have HP := hide (And.intro hrow hlim)
      have HX := hide (And.intro X1 SL)
      clear hrow hlim hzero m0 m1 m2 m3 m4 X1 SL
      generalize hY : wr.heap.size = Y at *
      clear hi hi4
      go_loopw [21, 22] (fun cc ck wx => ∃ (k : Nat) (c : Int) (S : Nat → Int), k ≤ 10 ∧ ck = .int .i64 k ∧ cc = .int .u64 c ∧ Limb c ∧ Hid (Row10 wx Y S ∧ (∀ k, Limb (S k))) ∧ Hid (val S 10 + c * pw k = V s0 s1 s2 s3 s4 + val P k) ∧ Below Y X wx) (fun _ ck _ => 10 - (intOf ck).toNat)
      case atStart => exact ⟨0, 0, sl s0 s1 s2 s3 s4, by omega, rfl, rfl, ⟨by omega, by omega⟩, HX, hide (by rw [sl_val]; simp [val]), Below.refl _ _⟩
      case round =>
        obtain ⟨k, c, S, hk, rfl, rfl, hc, HS, hvS, hbS⟩ := hrel
        clear HX
        by_cases hk10 : k < 10
        · obtain ⟨g1, g2⟩ := (unhide HS).1 k hk10
          have g3 : Hid (X.cell? ⟨w.heap.size + 1 + 1 + 1, k, none⟩ = some (.int .u64 (P k))) := hide (by rw [X2.cell (by show w.heap.size + 1 + 1 + 1 < Y; omega)]; exact ((unhide HP).1 k hk10).1)
          have g4 : wr.cell? ⟨w.heap.size + 1 + 1 + 1, k, none⟩ = some (.int .u64 (P k)) := by rw [hbS.cell (by show w.heap.size + 1 + 1 + 1 < Y; omega)]; exact unhide g3
          clear g3
          obtain ⟨z1, z2⟩ := (unhide HS).2 k
          obtain ⟨z3, z4⟩ := (unhide HP).2 k
          obtain ⟨z5, z6⟩ := hc
          have hmk := mask_int (S k + P k + c) (by omega) (by omega)
          have Hmk := hide hmk
          clear hmk
          have hk0 : (0 : Int) ≤ (k : Int) := by omega
          have hk1 : (k : Int) < 10 := by omega
          go_wp2
          go_quiet (fail)
          go_wp2
          go_roundw
          case rel =>
            rw [unhide Hmk]
            refine ⟨k + 1, _, upd S k ((S k + P k + c) % 4294967296), by omega, by go_num, rfl, ⟨by omega, by omega⟩, hide ⟨Row10.set (unhide HS).1 hk10 _, limb_upd (unhide HS).2 _ ⟨by omega, by omega⟩⟩, hide (last_val hk10 (unhide hvS)), Below.setCell (p := ⟨Y, k, none⟩) (below_drewN hbS _) (Nat.le_refl _) _⟩
          case measure => simp [intOf]; omega
        · have ek : k = 10 := by omega
          subst ek
          have c0 := ((unhide HS).1 0 (by omega)).1
          have c1 := ((unhide HS).1 1 (by omega)).1
          have c2 := ((unhide HS).1 2 (by omega)).1
          have c3 := ((unhide HS).1 3 (by omega)).1
          have c4 := ((unhide HS).1 4 (by omega)).1
          have c5 := ((unhide HS).1 5 (by omega)).1
          have c6 := ((unhide HS).1 6 (by omega)).1
          have c7 := ((unhide HS).1 7 (by omega)).1
          have c8 := ((unhide HS).1 8 (by omega)).1
          have c9 := ((unhide HS).1 9 (by omega)).1
          have LS := (unhide HS).2
          have o0 := or_int (LS 0) (LS 1)
          have o1 := or_int (LS 2) (LS 3)
          have o2 := or_int (LS 4) (LS 5)
          have o3 := or_int (LS 6) (LS 7)
          have o4 := or_int (LS 8) (LS 9)
          have hrr : ∀ i, i < 5 → wr.cell? ⟨w.heap.size + 1 + 1, i, none⟩ = some (.int .u64 0) ∧ wr.frozen? ⟨w.heap.size + 1 + 1, i, none⟩ = false := fun i hi => by
            have l1 : w.heap.size + 1 + 1 < Y := by omega
            rw [hbS.cell l1, hbS.frozen l1, X2.cell l1, X2.frozen l1, hbl.cell (by show w.heap.size + 1 + 1 < _; omega), hbl.frozen (by show w.heap.size + 1 + 1 < _; omega)]
            exact unhide HcR i hi
          obtain ⟨r0, q0⟩ := hrr 0 (by omega)
          obtain ⟨r1, q1⟩ := hrr 1 (by omega)
          obtain ⟨r2, q2⟩ := hrr 2 (by omega)
          obtain ⟨r3, q3⟩ := hrr 3 (by omega)
          obtain ⟨r4, q4⟩ := hrr 4 (by omega)
          clear hrr
          obtain ⟨e1, e2⟩ := end_val LS (unhide hvS)
          rw [unhide hval] at e2
          have He := hide (And.intro e1 e2)
          have hBe : Below w.heap.size w wr := (unhide Hfb).trans ((hbl.mono (by omega)).trans ((X2.mono (by omega)).trans (hbS.mono (by omega))))
          clear LS e1 e2
          go_wp2
          refine bodyPost_ret (v := .agg #[.int .u64 (S 0 + 4294967296 * S 1), .int .u64 (S 2 + 4294967296 * S 3), .int .u64 (S 4 + 4294967296 * S 5), .int .u64 (S 6 + 4294967296 * S 7), .int .u64 (S 8 + 4294967296 * S 9)]) ?_ rfl ⟨_, _, _, _, _, rfl, (unhide He).1, hide (unhide He).2, ?_⟩
          · simp [results, Try.results9, go_sem, *]
          · exact ((((hBe.setCell (p := ⟨w.heap.size + 1 + 1, 0, none⟩) (by show w.heap.size ≤ w.heap.size + 1 + 1; omega) _).setCell (p := ⟨w.heap.size + 1 + 1, 1, none⟩) (by show w.heap.size ≤ w.heap.size + 1 + 1; omega) _).setCell (p := ⟨w.heap.size + 1 + 1, 2, none⟩) (by show w.heap.size ≤ w.heap.size + 1 + 1; omega) _).setCell (p := ⟨w.heap.size + 1 + 1, 3, none⟩) (by show w.heap.size ≤ w.heap.size + 1 + 1; omega) _).setCell (p := ⟨w.heap.size + 1 + 1, 4, none⟩) (by show w.heap.size ≤ w.heap.size + 1 + 1; omega) _
end Go.Proofs.Qxb6623436a
