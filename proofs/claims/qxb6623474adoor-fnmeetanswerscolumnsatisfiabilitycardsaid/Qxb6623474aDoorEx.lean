/-
  The map of exclusions: by what it holds at a column and a number.
-/
import Derived.Test.Qxb6623474aDoorMaps
set_option linter.unusedVariables false
namespace Go.Proofs.Qxb6623474aDoor
open Go.RowKit Go.Maps

theorem dec_digit (u : Nat) : ∀ c ∈ Lib.decDigits u, 48 ≤ c.toNat := by
  induction u using Nat.strongRecOn with
  | _ u ih =>
    by_cases h : u < 10
    · rw [Lib.decDigits, dif_pos h]
      intro c hc
      simp at hc
      subst hc
      simp
      omega
    · rw [Lib.decDigits, dif_neg h]
      intro c hc
      simp at hc
      rcases hc with hc | rfl
      · exact ih (u / 10) (by omega) c hc
      · simp
        omega

theorem itoa_inj {n m : Int} (h : Lib.itoa n = Lib.itoa m) : n = m := by
  have no45 : ∀ u l, Lib.decDigits u ≠ 45 :: l := fun u l e => by
    have := dec_digit u 45 (by rw [e]; simp)
    simp at this
  unfold Lib.itoa at h
  split at h <;> split at h
  · have := congrArg decVal (List.cons.inj h).2
    rw [decVal_dec, decVal_dec] at this
    omega
  · exact absurd h.symm (no45 _ _)
  · exact absurd h (no45 _ _)
  · have := congrArg decVal h
    rw [decVal_dec, decVal_dec] at this
    omega

theorem keyS_inj {n m : Int} (h : keyS n = keyS m) : n = m := by
  unfold keyS keyBytes at h
  have h2 := congrArg ByteArray.data h
  simp at h2
  exact itoa_inj h2

theorem keyS_size {n : Int} (h0 : -9223372036854775808 ≤ n) (h1 : n ≤ 9223372036854775807) : (keyS n).size ≤ 23 := by
  have := Lib.itoa_length_le n h0 h1
  unfold keyS keyBytes ByteArray.size
  simp
  omega

theorem cells50 : Tryd.prog.cellsOf 50 = 2 := by kernel_rfl
theorem cells3 : Tryd.prog.cellsOf 3 = 1 := by kernel_rfl
theorem cells9 : Tryd.prog.cellsOf 9 = 1 := by kernel_rfl
theorem keyType50 : Tryd.prog.keyType 50 = true := by kernel_rfl

abbrev exV (col n : Int) : Value := .agg #[.int .i64 col, .string (keyS n)]
def exKey (col n : Int) : Lit := .string (Go.keyBytes [.int .i64 col, .string (keyS n).data.toList])

theorem keyOf_two {P : Program} {k t9 t3 : TypeId} {fs : Array Field} {f g : Field} (hk : P.underlying k = some (.struct fs)) (hfs : fs = #[f, g]) (hf : f.offset = 0) (hg : g.offset = 1) (hft : f.type = t3) (hgt : g.type = t9) (nf : (f.name != "_") = true) (ng : (g.name != "_") = true)
    (h3 : P.underlying t3 = some (.int .i64)) (h9 : P.underlying t9 = some .string) (c3 : P.cellsOf t3 = 1) (c9 : P.cellsOf t9 = 1) (ck : P.cellsOf k = 2) (kt : P.keyType k = true) (hpos : 0 < P.types.size)
    {col : Int} {s : ByteArray} (hc : (Lit.int .i64 col).wf = true) (hs : s.size ≤ maxLen) : keyOf P k (.agg #[.int .i64 col, .string s]) = some (.string (Go.keyBytes [.int .i64 col, .string s.data.toList])) := by
  obtain ⟨N, hN⟩ : ∃ N, P.types.size = N + 1 := ⟨P.types.size - 1, by omega⟩
  subst hfs
  unfold keyOf
  rw [hk]
  simp [kt, Value.formed, hk, ck, Value.cells, hN, Program.keyLits, hf, hg, hft, hgt, h3, h9, c3, c9, hc, hs, nf, ng]

theorem keyOf50 {col n : Int} (hc : I64 col) (h0 : -9223372036854775808 ≤ n) (h1 : n ≤ 9223372036854775807) : keyOf Tryd.prog 50 (exV col n) = some (exKey col n) :=
  keyOf_two Tryd.underlying50 rfl rfl rfl rfl rfl rfl rfl Tryd.underlying3 Tryd.underlying9 cells3 cells9 cells50 keyType50 (of_decide_eq_true (by kernel_rfl)) hc (by have := keyS_size h0 h1; unfold maxLen; omega)

end Go.Proofs.Qxb6623474aDoor
