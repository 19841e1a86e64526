/-
  toGroup: a deep copy in blocks of its own; nil stays nil.
-/
import Derived.Test.Qxb6621669aClone
import Derived.Deep.RegionHeld3
import Derived.Deep.DrawnRows
set_option linter.unusedVariables false
namespace Go.Proofs.Qxb6621669a
open Go.RowKit
attribute [local go_sem ↓] Go.wp_at_zero Go.wp_at_succ

theorem info38 : (Try.prog.info? 38).map (fun i => (i.zero, i.size, i.bytes)) = some (some (.agg #[.string ByteArray.empty, .slice none 0 0]), 2, 40) := by kernel_rfl

theorem run_make_protos (n : Nat) (hn : n ≤ 65536) (w : World) :
    (Instr.makeSlice 28 (.int .i64 (n : Int)) (.int .i64 (n : Int))).run Try.prog w = .ok (.slice (some ⟨w.heap.size, 0, none⟩) n n) (w.alloc (.cells (madeCells #[.string ByteArray.empty, .slice none 0 0] (n * 2)) 38)) := by
  obtain ⟨i, hi, hzz⟩ := Option.map_eq_some_iff.1 info38
  simp only [Prod.mk.injEq] at hzz
  obtain ⟨hz, hs, hb⟩ := hzz
  have hr := run_make (P := Try.prog) w 28 38 i _ Try.underlying28 hi hz .i64 .i64 n n (by omega) (Int.le_refl _) (by rw [hb]; omega) (by omega)
  simp only [Int.toNat_natCast, hs, Value.cells] at hr
  exact hr

/-- What a new row of protocols holds: so many cells, whatever they are. -/
theorem rowIs_protos (w : World) (n : Nat) : ∃ F, (w.alloc (.cells (madeCells #[.string ByteArray.empty, .slice none 0 0] (n * 2)) 38)).rowIs w.heap.size 38 (n * 2) F :=
  ⟨fun i => (madeCells #[.string ByteArray.empty, .slice none 0 0] (n * 2)).getD i default, _, Go.Deep.blk_alloc_new _ _, size_madeCells _ _, fun i hi => by
    rw [Array.getElem?_eq_getElem (by rw [size_madeCells]; exact hi)]
    simp [Array.getD, size_madeCells, hi]⟩

/-- The list as far as it has been laid: k entries in block N. -/
def Laid (N : Nat) (w : World) (p : PV) (k : Nat) : Prop :=
  ∃ (F : Nat → Value) (A : Nat → Option Addr) (C : Nat → Nat), w.rowIs N 38 (p.len * 2) F ∧ ∀ i, i < k → F (i * 2) = .string (p.nm i) ∧ F (i * 2 + 1) = .slice (A i) (p.ml i) (C i) ∧ OwnBytes (N + 1) w (A i) (p.ml i) (p.bs i)

theorem OwnBytes.setCell {lo : Nat} {w : World} {a : Option Addr} {len : Nat} {z : Nat → Int} (h : OwnBytes lo w a len z) {x : Addr} (hx : x.block < lo) (v : Value) : OwnBytes lo (w.setCell x v) a len z := by
  rcases h with h | ⟨b, rfl, h1, h2, h3⟩
  · exact .inl h
  · refine .inr ⟨b, rfl, h1, by simpa [World.setCell] using h2, fun j hj => ?_⟩
    have hb := Below.heap_setCell w x v b (by omega)
    exact ⟨by rw [World.cell?_of_block (w := w) hb]; exact (h3 j hj).1, by rw [World.frozen?_of_block (w := w) hb]; exact (h3 j hj).2⟩

theorem Laid.below {N : Nat} {w w' : World} {p : PV} {k : Nat} (h : Laid N w p k) (hb : Below w.heap.size w w') : Laid N w' p k := by
  obtain ⟨F, A, C, hr, h⟩ := h
  exact ⟨F, A, C, hr.of_block (hb.block _ hr.lt), fun i hi => ⟨(h i hi).1, (h i hi).2.1, (h i hi).2.2.below hb rfl⟩⟩

/-- One entry more. -/
theorem Laid.step {N : Nat} {w : World} {p : PV} {k : Nat} (h : Laid N w p k) {a : Option Addr} {c : Nat} (ha : OwnBytes (N + 1) w a (p.ml k) (p.bs k)) :
    Laid N ((w.setCell ⟨N, k * 2, none⟩ (.string (p.nm k))).setCell ⟨N, k * 2 + 1, none⟩ (.slice a (p.ml k) c)) p (k + 1) := by
  obtain ⟨F, A, C, hr, h⟩ := h
  refine ⟨_, fun i => if i = k then a else A i, fun i => if i = k then c else C i, (hr.set _ _).set _ _, fun i hi => ?_⟩
  by_cases e : i = k
  · subst e
    refine ⟨?_, by simp, ?_⟩
    · show (if i * 2 = i * 2 + 1 then _ else _) = _
      simp
    · simp only [if_true]
      exact (ha.setCell (by show N < N + 1; omega) _).setCell (by show N < N + 1; omega) _
  · obtain ⟨g1, g2, g3⟩ := h i (by omega)
    simp only [if_neg e]
    refine ⟨?_, ?_, (g3.setCell (by show N < N + 1; omega) _).setCell (by show N < N + 1; omega) _⟩
    · rw [if_neg (by omega), if_neg (by omega)]; exact g1
    · rw [if_neg (by omega), if_neg (by omega)]; exact g2

theorem Laid.own {N : Nat} {w : World} {p : PV} {lo : Nat} (h : Laid N w p p.len) (hlo : lo ≤ N) : OwnList lo w (some ⟨N, 0, none⟩) p := by
  obtain ⟨F, A, C, hr, h⟩ := h
  refine .inr ⟨N, rfl, hlo, hr.lt, A, C, fun i hi => ?_⟩
  obtain ⟨g1, g2, g3⟩ := h i hi
  exact ⟨by rw [hr.cell (by omega), g1], by rw [hr.cell (by omega), g2], hr.frozen _, hr.frozen _, g3⟩

set_option maxHeartbeats 2000000 in
theorem toGroup_any (a : Option Addr) (cap : Nat) (p : PV) (w : World) (hp : ListAt 0 w a p) (hs : p.small) (hn : a = none → p.len = 0) :
    Calls Try.prog 12 #[.slice a p.len cap] w fun e w' => ∃ a' cap', e = .returned (.slice a' p.len cap') ∧ p.len ≤ cap' ∧ cap' ≤ 65536 ∧ OwnList w.heap.size w' a' p ∧ Below w.heap.size w w' := by
  obtain ⟨hs1, hs2⟩ := hs
  have q25 := fun (w : World) (a : Option Addr) (n c n' c' : Nat) => Lib.run_eql_slice_nil (P := Try.prog) w 25 39 a n c n' c' Try.underlying25
  have hmk := fun w : World => run_make_protos p.len hs1 w
  rcases a with _ | x
  · have H0 : Hid (p.len = 0) := hn rfl
    clear hn
    go_enter Try.func12, Try.ntmps12
    go_wp2
    go_ret
    exact ⟨none, 0, by rw [H0.out]; rfl, by rw [H0.out]; exact Nat.le_refl _, by omega, .inl H0.out, Below.refl _ _⟩
  · clear hn
    go_enter Try.func12, Try.ntmps12
    go_wp2
    go_loopw [4, 12] (fun _ c wr => ∃ k : Nat, k ≤ p.len ∧ c = .int .i64 k ∧ Below w.heap.size w wr ∧ Laid w.heap.size wr p k) (fun _ c _ => p.len - (intOf c).toNat)
    case atStart =>
      obtain ⟨F, hF⟩ := rowIs_protos w p.len
      exact ⟨0, Nat.zero_le _, rfl, (Below.refl _ _).alloc (Nat.le_refl _) _, F, fun _ => none, fun _ => 0, hF, fun i hi => absurd hi (Nat.not_lt_zero _)⟩
    case round =>
      obtain ⟨k, hk, rfl, hb, hlaid⟩ := hrel
      by_cases hlt : k < p.len
      · rcases hp with hp | ⟨b, off, hx, _, hbs, A, C, hc⟩
        · omega
        cases hx
        obtain ⟨c1, c2, c3⟩ := hc k hlt
        obtain ⟨_, b2⟩ := hs2 k hlt
        have g1 : wr.cell? ⟨b, off + k * 2, none⟩ = some (.string (p.nm k)) := by rw [hb.cell hbs]; exact c1
        have g2 : wr.cell? ⟨b, off + k * 2 + 1, none⟩ = some (.slice (A k) (p.ml k) (C k)) := by rw [hb.cell hbs]; exact c2
        have g3 : BytesAt 0 wr.drew (A k) (p.ml k) (p.bs k) := c3.below hb.drew rfl
        obtain ⟨hN, v1, v2, hv1, hv2, hf1, hf2⟩ : w.heap.size < wr.heap.size ∧ ∃ v1 v2, wr.cell? ⟨w.heap.size, k * 2, none⟩ = some v1 ∧ wr.cell? ⟨w.heap.size, k * 2 + 1, none⟩ = some v2 ∧ wr.frozen? ⟨w.heap.size, k * 2, none⟩ = false ∧ wr.frozen? ⟨w.heap.size, k * 2 + 1, none⟩ = false := by
          obtain ⟨F, _, _, hr, _⟩ := hlaid
          exact ⟨hr.lt, _, _, hr.cell (by omega), hr.cell (by omega), hr.frozen _, hr.frozen _⟩
        have hbN : b ≠ w.heap.size := by omega
        have hbN' : w.heap.size ≠ b := by omega
        have hbr : b < wr.heap.size := by omega
        clear hc c1 c2 c3 hs2
        have HL : Hid (Laid w.heap.size wr p k) := hlaid
        clear hlaid
        have hi0 : (0 : Int) ≤ (k : Int) := by omega
        have hi1 : (k : Int) < (p.len : Int) := by omega
        go_wp2
        go_region_held3 (fun w' => w'.cell? ⟨b, off + k * 2, none⟩ = some (.string (p.nm k)) ∧ w'.cell? ⟨b, off + k * 2 + 1, none⟩ = some (.slice (A k) (p.ml k) (C k))) (go_keep)
          (first | (go_at_call 21; refine (cloneBytes_any (A k) (p.ml k) (C k) (p.bs k) _ g3 b2).mono ?_; rintro e w1 ⟨a', cap', rfl, hown, hbel⟩; have e1 := (hbel.cell (p := ⟨w.heap.size, k * 2, none⟩) hN).trans hv1; have e2 := (hbel.cell (p := ⟨w.heap.size, k * 2 + 1, none⟩) hN).trans hv2; have e3 := (hbel.frozen (p := ⟨w.heap.size, k * 2, none⟩) hN).trans hf1; have e4 := (hbel.frozen (p := ⟨w.heap.size, k * 2 + 1, none⟩) hN).trans hf2; have e5 := (hbel.cell (p := ⟨b, off + k * 2, none⟩) hbr).trans g1; have e6 := (hbel.cell (p := ⟨b, off + k * 2 + 1, none⟩) hbr).trans g2))
        go_wp2
        go_roundw
        case rel =>
          have hL1 : Laid w.heap.size w1 p k := Laid.below (w := wr.drew) HL.out hbel
          have hB1 : Below w.heap.size w w1 := hb.drew.trans (hbel.mono (by show w.heap.size ≤ wr.heap.size; omega))
          exact ⟨k + 1, by omega, by go_num, (hB1.setCell (Nat.le_refl _) _).setCell (Nat.le_refl _) _, hL1.step (hown.mono (by show w.heap.size + 1 ≤ wr.heap.size; omega))⟩
        case measure => simp [intOf]; omega
      · have e : k = p.len := by omega
        subst e
        go_wp2
        go_ret
        exact ⟨_, _, rfl, Nat.le_refl _, by omega, hlaid.own (Nat.le_refl _), hb⟩
end Go.Proofs.Qxb6621669a
