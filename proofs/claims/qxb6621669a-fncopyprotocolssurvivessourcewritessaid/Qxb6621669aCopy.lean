/-
  copyProtocols: a deep copy in blocks of its own, never nil, no metadata nil.
-/
import Derived.Test.Qxb6621669aGroup
import Derived.Laws.Append
set_option linter.unusedVariables false
namespace Go.Proofs.Qxb6621669a
open Go.RowKit
attribute [local go_sem ↓] Go.wp_at_zero Go.wp_at_succ

/-- 'append([]byte{}, xs...)', as the operation runs: the same bytes in a block of its own; never nil. -/
theorem run_copy_bytes (w : World) (ty : TypeId) (g : Addr) (src : Option Addr) (m c : Nat) (z : Nat → Int) (h : BytesAt 0 w src m z) (hm : m ≤ 1048576) :
    ∃ ad cap w', (Builtin.append_ #[32, 32] ty #[.slice (some g) 0 0, .slice src m c]).run Try.prog w = .ok (.slice (some ad) m cap) w' ∧ OwnBytes w.heap.size w' (some ad) m z ∧ Below w.heap.size w w' := by
  obtain ⟨i, hi, hz0, hz1, hz2⟩ := info_parts info5
  by_cases h0 : m = 0
  · subst h0
    refine ⟨g, 0, w, ?_, .inl rfl, Below.refl _ _⟩
    cases src with
    | none => simp [Builtin.append_, run_underlying Try.underlying32, sizeOf, typeInfo, hi, Builtin.lenOf, Builtin.firstCells, storeCells]
    | some x => simp [Builtin.append_, run_underlying Try.underlying32, sizeOf, typeInfo, hi, Builtin.lenOf, Builtin.firstCells, loadCells, loadCellsFrom, storeCells]
  · rcases h with h | ⟨b, off, rfl, _, hb, hc⟩
    · omega
    have hr := run_append_grow (P := Try.prog) w 32 ty 5 i _ Try.underlying32 hi hz0 g 0 0 [] (by simp) (fun j v hj => by simp at hj) ⟨b, off, none⟩ m c ((List.range m).map fun j => .int .u8 (z j)) (by simp [hz1])
      (fun j v hj => by
        have hjm : j < m := by
          rcases Nat.lt_or_ge j m with h | h
          · exact h
          · simp [h] at hj
        simp [hjm] at hj
        rw [show (⟨b, off, none⟩ : Addr).add j = ⟨b, off + j, none⟩ by unfold Addr.add; split <;> simp_all, hc j hjm, hj]) (by omega) (by omega) (growslice_fits (by omega) (by rw [hz2]; omega))
    refine ⟨_, _, _, by rw [Nat.zero_add] at hr; exact hr, .inr ⟨w.heap.size, rfl, Nat.le_refl _, by simp, fun j hj => ⟨?_, ?_⟩⟩, (Below.refl _ _).drew.alloc (Nat.le_refl _) _⟩
    · rw [show w.heap.size = w.drew.heap.size from rfl, cell_of_row _ _ _ _ _ _ (heap_alloc_new w.drew _)]
      rw [Array.getElem?_append_left (by simpa using hj)]
      simp [hj]
    · rw [show w.heap.size = w.drew.heap.size from rfl, World.frozen?, heap_alloc_new w.drew _]
      simp

/-- .. at a step of a region that draws its order. -/
theorem step_copy_bytes (w : World) {ops : Array Oper} {o : Oper} {a : Act} {K : Act → World → Prop} {Q : Exit → Act → World → Prop} {E : Prop} (hgd : o.guard = none) (s x : Operand)
    (ho : o.op = .call { callee := .builtin .append, args := #[s, x], argTypes := #[32, 32] }) (g : Addr) (src : Option Addr) (m c : Nat) (z : Nat → Int)
    (hs : a.eval s = .slice (some g) 0 0) (hx : a.eval x = .slice src m c) (hb : BytesAt 0 w src m z) (hm : m ≤ 1048576)
    (h : ∀ ad cap w', OwnBytes w.heap.size w' (some ad) m z → Below w.heap.size w w' → K (a.put o.dst (.slice (some ad) m cap)) w') :
    if Region.wanted o (yielded ops a.tmps) = true then Oper.wp Try.prog o a w K Q else E := by
  have hw : Region.wanted o (yielded ops a.tmps) = true := by simp [Region.wanted, hgd]
  rw [if_pos hw]
  obtain ⟨ad, cap, w', hr, h2, h3⟩ := run_copy_bytes w o.type g src m c z hb hm
  unfold Oper.wp execOp
  simp only [ho, resolve, invoke, builtin, Sem.run_bind, Sem.run_pure, Result.andThen_ok, List.map_toArray, List.map_cons, List.map_nil, hs, hx, hr]
  exact h ad cap w' h2 h3

/-- The list p in blocks of the call's own: the slice in block b, each metadata where A says, in a block behind it; all may be written. -/
def OwnL (w : World) (b : Nat) (p : PV) (A : Nat → Option Addr) (C : Nat → Nat) : Prop :=
  b < w.heap.size ∧ ∀ i, i < p.len →
    w.cell? ⟨b, i * 2, none⟩ = some (.string (p.nm i)) ∧ w.cell? ⟨b, i * 2 + 1, none⟩ = some (.slice (A i) (p.ml i) (C i)) ∧
    w.frozen? ⟨b, i * 2, none⟩ = false ∧ w.frozen? ⟨b, i * 2 + 1, none⟩ = false ∧ OwnBytes (b + 1) w (A i) (p.ml i) (p.bs i)

/-- k entries of the copy are laid in block N, none with nil metadata. -/
def LaidS (N : Nat) (w : World) (p : PV) (k : Nat) : Prop :=
  ∃ (F : Nat → Value) (A : Nat → Option Addr) (C : Nat → Nat), w.rowIs N 38 (p.len * 2) F ∧ ∀ i, i < k → F (i * 2) = .string (p.nm i) ∧ F (i * 2 + 1) = .slice (A i) (p.ml i) (C i) ∧ (A i).isSome = true ∧ OwnBytes (N + 1) w (A i) (p.ml i) (p.bs i)

theorem LaidS.below {N : Nat} {w w' : World} {p : PV} {k : Nat} (h : LaidS N w p k) (hb : Below w.heap.size w w') : LaidS N w' p k := by
  obtain ⟨F, A, C, hr, h⟩ := h
  exact ⟨F, A, C, hr.of_block (hb.block _ hr.lt), fun i hi => ⟨(h i hi).1, (h i hi).2.1, (h i hi).2.2.1, (h i hi).2.2.2.below hb rfl⟩⟩

theorem LaidS.step {N : Nat} {w : World} {p : PV} {k : Nat} (h : LaidS N w p k) {a : Addr} {c : Nat} (ha : OwnBytes (N + 1) w (some a) (p.ml k) (p.bs k)) :
    LaidS N ((w.setCell ⟨N, k * 2, none⟩ (.string (p.nm k))).setCell ⟨N, k * 2 + 1, none⟩ (.slice (some a) (p.ml k) c)) p (k + 1) := by
  obtain ⟨F, A, C, hr, h⟩ := h
  refine ⟨_, fun i => if i = k then some a else A i, fun i => if i = k then c else C i, (hr.set _ _).set _ _, fun i hi => ?_⟩
  by_cases e : i = k
  · subst e
    refine ⟨?_, by simp, by simp, ?_⟩
    · show (if i * 2 = i * 2 + 1 then _ else _) = _
      simp
    · simp only [if_true]
      exact (ha.setCell (by show N < N + 1; omega) _).setCell (by show N < N + 1; omega) _
  · obtain ⟨g1, g2, gs, g3⟩ := h i (by omega)
    simp only [if_neg e]
    refine ⟨?_, ?_, gs, (g3.setCell (by show N < N + 1; omega) _).setCell (by show N < N + 1; omega) _⟩
    · rw [if_neg (by omega), if_neg (by omega)]; exact g1
    · rw [if_neg (by omega), if_neg (by omega)]; exact g2

theorem LaidS.own {N : Nat} {w : World} {p : PV} (h : LaidS N w p p.len) : ∃ A C, OwnL w N p A C ∧ ∀ i, i < p.len → (A i).isSome = true := by
  obtain ⟨F, A, C, hr, h⟩ := h
  refine ⟨A, C, ⟨hr.lt, fun i hi => ?_⟩, fun i hi => (h i hi).2.2.1⟩
  obtain ⟨g1, g2, _, g3⟩ := h i hi
  exact ⟨by rw [hr.cell (by omega), g1], by rw [hr.cell (by omega), g2], hr.frozen _, hr.frozen _, g3⟩

set_option maxHeartbeats 2000000 in
theorem copy_any (ga : Option Addr) (gc : Nat) (p : PV) (w : World) (hp : ListAt 0 w ga p) (hs : p.small) :
    Calls Try.prog 24 #[.slice ga p.len gc] w fun e w' => ∃ A C, e = .returned (.slice (some ⟨w.heap.size, 0, none⟩) p.len p.len) ∧ OwnL w' w.heap.size p A C ∧ (∀ i, i < p.len → (A i).isSome = true) ∧ Below w.heap.size w w' := by
  obtain ⟨hs1, hs2⟩ := hs
  have hmk := fun w : World => run_make_protos p.len hs1 w
  go_enter Try.func24, Try.ntmps24
  go_wp2
  go_loopw [11] (fun c wr => ∃ k : Nat, k ≤ p.len ∧ c = .int .i64 k ∧ Below w.heap.size w wr ∧ LaidS w.heap.size wr p k) (fun c _ => p.len - (intOf c).toNat)
  case atStart =>
    obtain ⟨F, hF⟩ := rowIs_protos w p.len
    exact ⟨0, Nat.zero_le _, rfl, (Below.refl _ _).alloc (Nat.le_refl _) _, F, fun _ => none, fun _ => 0, hF, fun i hi => absurd hi (Nat.not_lt_zero _)⟩
  case round =>
    obtain ⟨k, hk, rfl, hb, hlaid⟩ := hrel
    by_cases hlt : k < p.len
    · rcases hp with hp | ⟨b, off, rfl, _, hbs, A, C, hc⟩
      · omega
      obtain ⟨c1, c2, c3⟩ := hc k hlt
      obtain ⟨_, b2⟩ := hs2 k hlt
      have g1 : wr.cell? ⟨b, off + k * 2, none⟩ = some (.string (p.nm k)) := by rw [hb.cell hbs]; exact c1
      have g2 : wr.cell? ⟨b, off + k * 2 + 1, none⟩ = some (.slice (A k) (p.ml k) (C k)) := by rw [hb.cell hbs]; exact c2
      have g3 : BytesAt 0 wr (A k) (p.ml k) (p.bs k) := c3.below hb rfl
      have HL := hide hlaid
      clear hc c1 c2 c3 hs2 hlaid
      have hi0 : (0 : Int) ≤ (k : Int) := by omega
      have hi1 : (k : Int) < (p.len : Int) := by omega
      have hN : w.heap.size < wr.heap.size := by obtain ⟨F, _, _, hr, _⟩ := unhide HL; exact hr.lt
      go_wp2
      have hbw : Below wr.heap.size wr (wr.alloc (Obj.cells #[Value.string (p.nm k), Value.slice (A k) (p.ml k) (C k)] 38)) := (Below.refl _ _).alloc (Nat.le_refl _) _
      have x1 : (wr.alloc (Obj.cells #[Value.string (p.nm k), Value.slice (A k) (p.ml k) (C k)] 38)).cell? ⟨wr.heap.size, 0, none⟩ = some (.string (p.nm k)) := by simp
      have x2 : (wr.alloc (Obj.cells #[Value.string (p.nm k), Value.slice (A k) (p.ml k) (C k)] 38)).cell? ⟨wr.heap.size, 1, none⟩ = some (.slice (A k) (p.ml k) (C k)) := by simp
      have hsz : (wr.alloc (Obj.cells #[Value.string (p.nm k), Value.slice (A k) (p.ml k) (C k)] 38)).heap.size = wr.heap.size + 1 := by simp
      generalize wr.alloc (Obj.cells #[Value.string (p.nm k), Value.slice (A k) (p.ml k) (C k)] 38) = X at *
      have HLX := hide (LaidS.below (unhide HL) hbw)
      have g3X := g3.below hbw rfl
      have hbX := hb.trans (hbw.mono (by omega))
      have hNX : w.heap.size < X.heap.size := by omega
      obtain ⟨v1, v2, hv1, hv2, hf1, hf2⟩ : ∃ v1 v2, X.cell? ⟨w.heap.size, k * 2, none⟩ = some v1 ∧ X.cell? ⟨w.heap.size, k * 2 + 1, none⟩ = some v2 ∧ X.frozen? ⟨w.heap.size, k * 2, none⟩ = false ∧ X.frozen? ⟨w.heap.size, k * 2 + 1, none⟩ = false := by
        obtain ⟨F, _, _, hr, _⟩ := unhide HLX
        exact ⟨_, _, hr.cell (by omega), hr.cell (by omega), hr.frozen _, hr.frozen _⟩
      clear HL g1 g2 g3 hb
      generalize wr.heap.size = N at *
      have hNX2 : N < X.heap.size := by omega
      have hne : N ≠ w.heap.size := by omega
      have hne' : w.heap.size ≠ N := by omega
      have hsz' := hide hsz
      clear hsz hbw
      have hbY : Below X.heap.size X (X.alloc (Obj.cells #[] 5)).drew := ((Below.refl _ _).alloc (Nat.le_refl _) _).drew
      have g3Y := g3X.below hbY rfl
      go_region_held3 (fun w' => w'.cell? ⟨N, 0, none⟩ = some (.string (p.nm k)) ∧ w'.cell? ⟨N, 1, none⟩ = some (.slice (A k) (p.ml k) (C k))) (go_keep)
        ((refine step_copy_bytes _ (by rfl) _ _ (by rfl) _ (A k) (p.ml k) (C k) (p.bs k) (by rfl) (by rfl) g3Y b2 ?_; intro ad cap w1 hown hbel; have hbXw := hbY.trans (hbel.mono (by simp)); have e1 := (hbXw.cell (p := ⟨w.heap.size, k * 2, none⟩) hNX).trans hv1; have e2 := (hbXw.cell (p := ⟨w.heap.size, k * 2 + 1, none⟩) hNX).trans hv2; have e3 := (hbXw.frozen (p := ⟨w.heap.size, k * 2, none⟩) hNX).trans hf1; have e4 := (hbXw.frozen (p := ⟨w.heap.size, k * 2 + 1, none⟩) hNX).trans hf2; have e5 := (hbXw.cell (p := ⟨N, 0, none⟩) hNX2).trans x1; have e6 := (hbXw.cell (p := ⟨N, 1, none⟩) hNX2).trans x2))
      go_wp2
      go_roundw
      case rel =>
        have hL1 : LaidS w.heap.size w1 p k := LaidS.below (unhide HLX) hbXw
        have hB1 : Below w.heap.size w w1 := hbX.trans (hbXw.mono (by omega))
        exact ⟨k + 1, by omega, by go_num, (hB1.setCell (Nat.le_refl _) _).setCell (Nat.le_refl _) _, hL1.step (hown.mono (by simp; omega))⟩
      case measure => simp [intOf]; omega
    · have e : k = p.len := by omega
      subst e
      obtain ⟨A, C, h1, h2⟩ := hlaid.own
      go_wp2
      go_ret
      exact ⟨A, C, rfl, h1, h2, hb⟩
end Go.Proofs.Qxb6621669a
