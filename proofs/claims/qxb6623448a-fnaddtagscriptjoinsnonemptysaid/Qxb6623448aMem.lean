/-
  How a list of strings lies in memory; what the field holds after k values. No Go text in sight.
-/
import Derived.Below
import Derived.Carry
import Derived.Lib.AppendStr
set_option linter.unusedVariables false
namespace Go.Proofs.Qxb6623448a
open Go.RowKit

theorem hide {p : Prop} (h : p) : Hid p := h
theorem unhide {p : Prop} (h : Hid p) : p := h

/-- n strings lie behind the address a. -/
def StrsAt (w : World) (a : Option Addr) (n : Nat) (V : Nat → ByteArray) : Prop :=
  n = 0 ∨ ∃ b off, a = some ⟨b, off, none⟩ ∧ b < w.heap.size ∧ ∀ i, i < n → w.cell? ⟨b, off + i, none⟩ = some (.string (V i))

theorem StrsAt.below {w w' : World} {a : Option Addr} {n : Nat} {V : Nat → ByteArray} (h : StrsAt w a n V) (hb : Below w.heap.size w w') : StrsAt w' a n V := by
  rcases h with h | ⟨b, off, rfl, h1, h2⟩
  · exact .inl h
  · exact .inr ⟨b, off, rfl, Nat.lt_of_lt_of_le h1 hb.size, fun i hi => by rw [hb.cell h1]; exact h2 i hi⟩

def sep : ByteArray := { data := #[32, 47, 32] }

/-- One value more. -/
def addT (f v : ByteArray) : ByteArray := if v.size = 0 then f else if f.size = 0 then v else f ++ (sep ++ v)

/-- The field after k values. -/
def fld (s : ByteArray) (V : Nat → ByteArray) : Nat → ByteArray
  | 0 => s
  | k + 1 => addT (fld s V k) (V k)

/-- The bound that the law's own loop adds up. -/
def tot (s : ByteArray) (V : Nat → ByteArray) : Nat → Nat
  | 0 => s.size
  | k + 1 => tot s V k + (16 + (V k).size)

theorem sep_size : sep.size = 3 := rfl

theorem fld_le (s : ByteArray) (V : Nat → ByteArray) : ∀ k, (fld s V k).size ≤ tot s V k
  | 0 => Nat.le_refl _
  | k + 1 => by
    have ih := fld_le s V k
    simp only [fld, tot, addT]
    split
    · omega
    · split
      · omega
      · rw [ByteArray.size_append, ByteArray.size_append, sep_size]
        omega

theorem tot_mono (s : ByteArray) (V : Nat → ByteArray) {j k : Nat} (h : j ≤ k) : tot s V j ≤ tot s V k := by
  induction k with
  | zero => have : j = 0 := by omega
            subst this; exact Nat.le_refl _
  | succ k ih =>
    by_cases e : j = k + 1
    · subst e; exact Nat.le_refl _
    · have := ih (by omega)
      simp only [tot]; omega

theorem toList_size (s : ByteArray) : s.toList.length = s.size := by rw [ByteArray.toList_eq]; rfl

theorem strCells_append (a b : ByteArray) : Lib.strCells (a ++ b) = Lib.strCells a ++ Lib.strCells b := by
  simp [Lib.strCells, ByteArray.data_append]

end Go.Proofs.Qxb6623448a
