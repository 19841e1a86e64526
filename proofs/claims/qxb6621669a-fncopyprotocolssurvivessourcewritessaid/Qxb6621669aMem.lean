/-
  How a list of protocols lies in memory, said of cells; what two lists being the same means. No Go text in sight.
-/
import Derived.Below
import Derived.Carry
namespace Go.Proofs.Qxb6621669a
open Go.RowKit

theorem hide {p : Prop} (h : p) : Hid p := h
theorem unhide {p : Prop} (h : Hid p) : p := h

/-- What a slice of protocols holds, by index: names, metadata lengths, metadata bytes. -/
structure PV where
  len : Nat
  nm : Nat → ByteArray
  ml : Nat → Nat
  bs : Nat → Nat → Int

/-- 'len' bytes lie behind the address 'a', in a block from 'B' on. -/
def BytesAt (B : Nat) (w : World) (a : Option Addr) (len : Nat) (z : Nat → Int) : Prop :=
  len = 0 ∨ ∃ b off, a = some ⟨b, off, none⟩ ∧ B ≤ b ∧ b < w.heap.size ∧ ∀ j, j < len → w.cell? ⟨b, off + j, none⟩ = some (.int .u8 (z j))

/-- The list p lies behind the address 'a', all of it in blocks from 'B' on. -/
def ListAt (B : Nat) (w : World) (a : Option Addr) (p : PV) : Prop :=
  p.len = 0 ∨ ∃ b off, a = some ⟨b, off, none⟩ ∧ B ≤ b ∧ b < w.heap.size ∧ ∃ (A : Nat → Option Addr) (C : Nat → Nat), ∀ i, i < p.len →
    w.cell? ⟨b, off + i * 2, none⟩ = some (.string (p.nm i)) ∧ w.cell? ⟨b, off + i * 2 + 1, none⟩ = some (.slice (A i) (p.ml i) (C i)) ∧ BytesAt B w (A i) (p.ml i) (p.bs i)

/-- Every byte is one. -/
def PV.ok (p : PV) : Prop := ∀ i j, 0 ≤ p.bs i j ∧ p.bs i j ≤ 255

/-- The lengths are within what a law lets through. -/
def PV.small (p : PV) : Prop := p.len ≤ 65536 ∧ ∀ i, i < p.len → (p.nm i).size ≤ 1048576 ∧ p.ml i ≤ 1048576

/-- Lengths that a Go int holds. -/
def PV.fits (p : PV) : Prop := p.len ≤ 9223372036854775807 ∧ ∀ i, i < p.len → (p.nm i).size ≤ 9223372036854775807 ∧ p.ml i ≤ 9223372036854775807

/-- As many entries, the same names, the same metadata. -/
def PV.Same (p q : PV) : Prop := p.len = q.len ∧ ∀ i, i < p.len → p.nm i = q.nm i ∧ p.ml i = q.ml i ∧ ∀ j, j < p.ml i → p.bs i j = q.bs i j

theorem PV.Same.refl (p : PV) : p.Same p := ⟨rfl, fun _ _ => ⟨rfl, rfl, fun _ _ => rfl⟩⟩

theorem PV.Same.symm {p q : PV} (h : p.Same q) : q.Same p :=
  ⟨h.1.symm, fun i hi => have g := h.2 i (by rw [h.1]; exact hi); ⟨g.1.symm, g.2.1.symm, fun j hj => (g.2.2 j (by rw [g.2.1]; exact hj)).symm⟩⟩

/-- The same, as a test. -/
def PV.same (p q : PV) : Bool :=
  p.len == q.len && (List.range p.len).all fun i => (p.nm i).data == (q.nm i).data && (p.ml i == q.ml i && (List.range (p.ml i)).all fun j => p.bs i j == q.bs i j)

theorem PV.same_iff (p q : PV) : p.same q = true ↔ p.Same q := by
  unfold PV.same PV.Same
  simp only [Bool.and_eq_true, beq_iff_eq, List.all_eq_true, List.mem_range]
  constructor
  · rintro ⟨h1, h2⟩
    exact ⟨h1, fun i hi => ⟨ByteArray.ext (h2 i hi).1, (h2 i hi).2.1, (h2 i hi).2.2⟩⟩
  · rintro ⟨h1, h2⟩
    exact ⟨h1, fun i hi => ⟨by rw [(h2 i hi).1], (h2 i hi).2.1, (h2 i hi).2.2⟩⟩

/-- The first i entries; the entries from i on. -/
def PV.head (p : PV) (i : Nat) : PV := { p with len := i }
def PV.tail (p : PV) (i : Nat) : PV := { len := p.len - i, nm := fun k => p.nm (i + k), ml := fun k => p.ml (i + k), bs := fun k => p.bs (i + k) }

/-- THE LAW OF THE CUT. -/
theorem PV.same_cut {p q : PV} {i : Nat} (hp : i ≤ p.len) (hq : i ≤ q.len) : p.Same q ↔ (p.head i).Same (q.head i) ∧ (p.tail i).Same (q.tail i) := by
  constructor
  · rintro ⟨h1, h2⟩
    refine ⟨⟨rfl, fun k hk => h2 k (Nat.lt_of_lt_of_le hk hp)⟩, ⟨by simp [PV.tail, h1], fun k hk => h2 (i + k) (by simp [PV.tail] at hk; omega)⟩⟩
  · rintro ⟨⟨_, h2⟩, ⟨h3, h4⟩⟩
    simp only [PV.tail, PV.head] at h2 h3 h4
    refine ⟨by omega, fun k hk => ?_⟩
    by_cases hki : k < i
    · exact h2 k hki
    · have := h4 (k - i) (by omega)
      rwa [show i + (k - i) = k by omega] at this

/-- Bytes in a block of the call's own (from 'lo' on), which may be written. -/
def OwnBytes (lo : Nat) (w : World) (a : Option Addr) (len : Nat) (z : Nat → Int) : Prop :=
  len = 0 ∨ ∃ b, a = some ⟨b, 0, none⟩ ∧ lo ≤ b ∧ b < w.heap.size ∧ ∀ j, j < len → w.cell? ⟨b, j, none⟩ = some (.int .u8 (z j)) ∧ w.frozen? ⟨b, j, none⟩ = false

/-- A list in blocks of the call's own: the slice's block, and each entry's metadata in a block behind it. -/
def OwnList (lo : Nat) (w : World) (a : Option Addr) (p : PV) : Prop :=
  p.len = 0 ∨ ∃ b, a = some ⟨b, 0, none⟩ ∧ lo ≤ b ∧ b < w.heap.size ∧ ∃ (A : Nat → Option Addr) (C : Nat → Nat), ∀ i, i < p.len →
    w.cell? ⟨b, i * 2, none⟩ = some (.string (p.nm i)) ∧ w.cell? ⟨b, i * 2 + 1, none⟩ = some (.slice (A i) (p.ml i) (C i)) ∧
    w.frozen? ⟨b, i * 2, none⟩ = false ∧ w.frozen? ⟨b, i * 2 + 1, none⟩ = false ∧ OwnBytes (b + 1) w (A i) (p.ml i) (p.bs i)

theorem OwnBytes.bytesAt {lo : Nat} {w : World} {a : Option Addr} {len : Nat} {z : Nat → Int} (h : OwnBytes lo w a len z) : BytesAt lo w a len z := by
  rcases h with h | ⟨b, rfl, h1, h2, h3⟩
  · exact .inl h
  · exact .inr ⟨b, 0, rfl, h1, h2, fun j hj => by rw [Nat.zero_add]; exact (h3 j hj).1⟩

theorem BytesAt.mono {B B' : Nat} {w : World} {a : Option Addr} {len : Nat} {z : Nat → Int} (h : BytesAt B w a len z) (hB : B' ≤ B) : BytesAt B' w a len z := by
  rcases h with h | ⟨b, off, rfl, h1, h2, h3⟩
  · exact .inl h
  · exact .inr ⟨b, off, rfl, Nat.le_trans hB h1, h2, h3⟩

theorem OwnBytes.mono {B B' : Nat} {w : World} {a : Option Addr} {len : Nat} {z : Nat → Int} (h : OwnBytes B w a len z) (hB : B' ≤ B) : OwnBytes B' w a len z := by
  rcases h with h | ⟨b, rfl, h1, h2, h3⟩
  · exact .inl h
  · exact .inr ⟨b, rfl, Nat.le_trans hB h1, h2, h3⟩

theorem OwnList.mono {B B' : Nat} {w : World} {a : Option Addr} {p : PV} (h : OwnList B w a p) (hB : B' ≤ B) : OwnList B' w a p := by
  rcases h with h | ⟨b, rfl, h1, h2, h3⟩
  · exact .inl h
  · exact .inr ⟨b, rfl, Nat.le_trans hB h1, h2, h3⟩

theorem OwnList.listAt {lo : Nat} {w : World} {a : Option Addr} {p : PV} (h : OwnList lo w a p) : ListAt lo w a p := by
  rcases h with h | ⟨b, rfl, h1, h2, A, C, h3⟩
  · exact .inl h
  · refine .inr ⟨b, 0, rfl, h1, h2, A, C, fun i hi => ?_⟩
    obtain ⟨g1, g2, _, _, g5⟩ := h3 i hi
    rw [Nat.zero_add]
    exact ⟨g1, g2, g5.bytesAt.mono (by omega)⟩

theorem OwnBytes.below {B N : Nat} {w w' : World} {a : Option Addr} {len : Nat} {z : Nat → Int} (h : OwnBytes B w a len z) (hb : Below N w w') (hN : N = w.heap.size) : OwnBytes B w' a len z := by
  subst hN
  rcases h with h | ⟨b, rfl, h1, h2, h3⟩
  · exact .inl h
  · exact .inr ⟨b, rfl, h1, Nat.lt_of_lt_of_le h2 hb.size, fun j hj => ⟨by rw [hb.cell h2]; exact (h3 j hj).1, by rw [hb.frozen h2]; exact (h3 j hj).2⟩⟩

theorem OwnList.below {B N : Nat} {w w' : World} {a : Option Addr} {p : PV} (h : OwnList B w a p) (hb : Below N w w') (hN : N = w.heap.size) : OwnList B w' a p := by
  subst hN
  rcases h with h | ⟨b, rfl, h1, h2, A, C, h3⟩
  · exact .inl h
  · refine .inr ⟨b, rfl, h1, Nat.lt_of_lt_of_le h2 hb.size, A, C, fun i hi => ?_⟩
    obtain ⟨g1, g2, g3, g4, g5⟩ := h3 i hi
    exact ⟨by rw [hb.cell h2]; exact g1, by rw [hb.cell h2]; exact g2, by rw [hb.frozen h2]; exact g3, by rw [hb.frozen h2]; exact g4, g5.below hb rfl⟩

/-! ### Carried over steps that turn nothing old -/

theorem BytesAt.below {B N : Nat} {w w' : World} {a : Option Addr} {len : Nat} {z : Nat → Int} (h : BytesAt B w a len z) (hb : Below N w w') (hN : N = w.heap.size) : BytesAt B w' a len z := by
  subst hN
  rcases h with h | ⟨b, off, rfl, h1, h2, h3⟩
  · exact .inl h
  · exact .inr ⟨b, off, rfl, h1, Nat.lt_of_lt_of_le h2 hb.size, fun j hj => by rw [hb.cell h2]; exact h3 j hj⟩

theorem ListAt.below {B N : Nat} {w w' : World} {a : Option Addr} {p : PV} (h : ListAt B w a p) (hb : Below N w w') (hN : N = w.heap.size) : ListAt B w' a p := by
  rcases h with h | ⟨b, off, rfl, h1, h2, A, C, h3⟩
  · exact .inl h
  · refine .inr ⟨b, off, rfl, h1, Nat.lt_of_lt_of_le h2 hb.size, A, C, fun i hi => ?_⟩
    obtain ⟨g1, g2, g3⟩ := h3 i hi
    subst hN
    exact ⟨by rw [hb.cell h2]; exact g1, by rw [hb.cell h2]; exact g2, g3.below hb rfl⟩

theorem ListAt.mono {B B' : Nat} {w : World} {a : Option Addr} {p : PV} (h : ListAt B w a p) (hB : B' ≤ B) : ListAt B' w a p := by
  rcases h with h | ⟨b, off, rfl, h1, h2, A, C, h3⟩
  · exact .inl h
  · exact .inr ⟨b, off, rfl, Nat.le_trans hB h1, h2, A, C, fun i hi => ⟨(h3 i hi).1, (h3 i hi).2.1, (h3 i hi).2.2.mono hB⟩⟩

/-! ### Cuts -/

theorem ListAt.head {B : Nat} {w : World} {a : Option Addr} {p : PV} (h : ListAt B w a p) {i : Nat} (hi : i ≤ p.len) : ListAt B w a (p.head i) := by
  by_cases h0 : i = 0
  · exact .inl h0
  rcases h with h | ⟨b, off, rfl, h1, h2, A, C, h3⟩
  · omega
  · exact .inr ⟨b, off, rfl, h1, h2, A, C, fun k hk => h3 k (Nat.lt_of_lt_of_le hk hi)⟩

/-- Where 'xs[i:]' begins. -/
def cutAt (a : Option Addr) (cap i : Nat) : Option Addr := if cap = i then a else a.map (·.add (i * 2))

theorem ListAt.tail {B : Nat} {w : World} {a : Option Addr} {p : PV} (h : ListAt B w a p) {i cap : Nat} (hi : i ≤ p.len) (hc : p.len ≤ cap) : ListAt B w (cutAt a cap i) (p.tail i) := by
  by_cases h0 : p.len - i = 0
  · exact .inl h0
  rcases h with h | ⟨b, off, rfl, h1, h2, A, C, h3⟩
  · omega
  · refine .inr ⟨b, off + i * 2, ?_, h1, h2, fun k => A (i + k), fun k => C (i + k), fun k hk => ?_⟩
    · unfold cutAt
      rw [if_neg (by omega)]
      simp only [Option.map_some, Addr.add]
      by_cases e : i * 2 = 0 <;> simp [e]
    · have hk' : k < p.len - i := hk
      have := h3 (i + k) (by omega)
      rw [show off + (i + k) * 2 = off + i * 2 + k * 2 by omega] at this
      exact this

theorem PV.ok_head {p : PV} (h : p.ok) (i : Nat) : (p.head i).ok := h
theorem PV.ok_tail {p : PV} (h : p.ok) (i : Nat) : (p.tail i).ok := fun k j => h (i + k) j
theorem PV.small_tail {p : PV} (h : p.small) (i : Nat) : (p.tail i).small :=
  ⟨Nat.le_trans (Nat.sub_le _ _) h.1, fun k hk => h.2 (i + k) (by have hk' : k < p.len - i := hk; omega)⟩

end Go.Proofs.Qxb6621669a
