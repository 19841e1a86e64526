/-
  sameProtocols: it only reads; it says yes just where the two lists are the same.
-/
import Derived.Test.Qxb6621669aRows
import Derived.Test.Qxb6621669aMem
import Derived.WalkKit
import Derived.WalkSpells
import Derived.WalkLawsBesides
import Derived.Deep.QuietTactic
import Derived.BigQuiet
import Derived.Laws.BytesArg
import Derived.KernelRfl
set_option linter.unusedVariables false
namespace Go.Proofs.Qxb6621669a
open Go.RowKit

theorem toList_inj {a b : ByteArray} (h : a.toList = b.toList) : a = b := by
  rw [ByteArray.toList_eq, ByteArray.toList_eq] at h
  obtain ⟨⟨x⟩⟩ := a
  obtain ⟨⟨y⟩⟩ := b
  simp at h
  rw [h]

/-- The string of so many bytes. -/
def strOf (len : Nat) (z : Nat → Int) : ByteArray := strOfNums ((List.range len).map z)

theorem strOf_inj {len len' : Nat} {z z' : Nat → Int} (hz : ∀ j, 0 ≤ z j ∧ z j ≤ 255) (hz' : ∀ j, 0 ≤ z' j ∧ z' j ≤ 255) :
    strOf len z = strOf len' z' ↔ len = len' ∧ ∀ j, j < len → z j = z' j := by
  constructor
  · intro h
    have h1 : (strOf len z).data.toList = (strOf len' z').data.toList := by rw [h]
    simp only [strOf, strOfNums_data, List.map_map] at h1
    have hl : len = len' := by simpa using congrArg List.length h1
    refine ⟨hl, fun j hj => ?_⟩
    subst hl
    have h2 := List.map_inj_left.1 h1 j (List.mem_range.2 hj)
    simp only [Function.comp] at h2
    have h3 := congrArg UInt8.toNat h2
    have a1 := hz j
    have a2 := hz' j
    rw [UInt8.toNat_ofNat', UInt8.toNat_ofNat'] at h3
    omega
  · rintro ⟨rfl, h⟩
    unfold strOf
    rw [List.map_congr_left fun j hj => h j (List.mem_range.1 hj)]

theorem run_convert_at {B : Nat} {w : World} {a : Option Addr} {len : Nat} {z : Nat → Int} (h : BytesAt B w a len z) (c : Nat) :
    (convert 32 9 (.slice a len c)).run Try.prog w = .ok (.string (strOf len z)) w := by
  rcases h with h | ⟨b, off, rfl, _, _, h3⟩
  · subst h
    rw [run_convert_bytes_string w 32 9 5 a 0 c Try.underlying32 Try.underlying5 Try.underlying9]
    cases a with
    | none => simp [Conv.bytesToString, strOf, strOfNums]; rfl
    | some x =>
      rw [run_bytesToString w x 0 c [] (by simp [loadCells, loadCellsFrom])]
      simp [strOf, strOfNums]; rfl
  · exact run_convert_bytes_arg w 32 5 Try.underlying32 Try.underlying5 b off len c _ (by simp) (fun i hi => by rw [h3 i hi]; simp [List.getD, hi]) 9 Try.underlying9

set_option maxHeartbeats 1000000 in
theorem same_any (a b : Option Addr) (cap cap' : Nat) (p q : PV) (w : World) (hp : ListAt 0 w a p) (hq : ListAt 0 w b q) (hpo : p.ok) (hqo : q.ok) (hpf : p.len ≤ 65536) (hqf : q.len ≤ 65536) :
    Calls Try.prog 22 #[.slice a p.len cap, .slice b q.len cap'] w fun e w' => ∃ r : Bool, e = .returned (.bool r) ∧ (r = true ↔ p.Same q) ∧ ∃ n, w' = w.drewN n := by
  by_cases hl : p.len = q.len
  · have hl1 : ((p.len : Int) != (q.len : Int)) = false := by simp [hl]
    have hl2 : ((p.len : Int) == (q.len : Int)) = true := by simp [hl]
    have Hl : Hid (p.len = q.len) := hl
    clear hl
    go_enter Try.func22, Try.ntmps22
    go_wp2
    go_loopw [5, 13] (fun _ c wr => ∃ k m : Nat, k ≤ p.len ∧ c = .int .i64 k ∧ wr = w.drewN m ∧ ∀ i, i < k → p.nm i = q.nm i ∧ p.ml i = q.ml i ∧ ∀ j, j < p.ml i → p.bs i j = q.bs i j) (fun _ c _ => p.len - (intOf c).toNat)
    case atStart => exact ⟨0, 0, Nat.zero_le _, rfl, rfl, fun i hi => absurd hi (Nat.not_lt_zero _)⟩
    case round =>
      obtain ⟨k, m, hk, rfl, rfl, hsm⟩ := hrel
      have HS : Hid (∀ i, i < k → p.nm i = q.nm i ∧ p.ml i = q.ml i ∧ ∀ j, j < p.ml i → p.bs i j = q.bs i j) := hsm
      clear hsm
      by_cases hlt : k < p.len
      · rcases hp with hp | ⟨b1, o1, rfl, _, _, A, C, hc⟩
        · omega
        rcases hq with hq | ⟨b2, o2, rfl, _, _, A', C', hc'⟩
        · have := Hl.out; omega
        obtain ⟨c1, c2, c3⟩ := hc k hlt
        have hlt2 : k < q.len := by have := Hl.out; omega
        obtain ⟨d1, d2, d3⟩ := hc' k hlt2
        clear hc hc'
        have hi1 : (k : Int) < (p.len : Int) := by omega
        have hi2 : (k : Int) < (q.len : Int) := by omega
        have v1 := fun n => run_convert_at (w := w.drewN n) (B := 0) (a := A k) (len := p.ml k) (z := p.bs k) c3 (C k)
        have v2 := fun n => run_convert_at (w := w.drewN n) (B := 0) (a := A' k) (len := q.ml k) (z := q.bs k) d3 (C' k)
        by_cases hn : p.nm k = q.nm k
        · have hn1 : ((p.nm k).toList == (q.nm k).toList) = true := by simp [hn]
          have hsi := strOf_inj (len := p.ml k) (len' := q.ml k) (z := p.bs k) (z' := q.bs k) (hpo k) (hqo k)
          by_cases hs : strOf (p.ml k) (p.bs k) = strOf (q.ml k) (q.bs k)
          · have hs1 : ((strOf (p.ml k) (p.bs k)).toList == (strOf (q.ml k) (q.bs k)).toList) = true := by simp [hs]
            have HE : Hid (p.nm k = q.nm k ∧ p.ml k = q.ml k ∧ ∀ j, j < p.ml k → p.bs k j = q.bs k j) := ⟨hn, hsi.1 hs⟩
            clear hsi hs hn hpo hqo c3 d3
            go_wp2
            go_quiet (fail)
            go_wp2
            go_roundw
            case rel =>
              refine ⟨k + 1, _, by omega, by go_num, rfl, fun i hi => ?_⟩
              by_cases hik : i < k
              · exact HS.out i hik
              · have : i = k := by omega
                subst this
                exact HE.out
            case measure => simp [intOf]; omega
          · have hs1 : ((strOf (p.ml k) (p.bs k)).toList == (strOf (q.ml k) (q.bs k)).toList) = false := by
              rw [beq_eq_false_iff_ne]
              intro e
              exact hs (toList_inj e)
            have HN : Hid (¬ p.Same q) := fun h => hs (hsi.2 (h.2 k hlt).2)
            clear hsi hs hn hpo hqo c3 d3
            go_wp2
            go_quiet (fail)
            go_wp2
            go_ret
            exact ⟨false, rfl, by simp; exact HN.out, _, World.drewN_drewN _ _ _⟩
        · have hn1 : ((p.nm k).toList == (q.nm k).toList) = false := by
            rw [beq_eq_false_iff_ne]
            intro e
            exact hn (toList_inj e)
          have HN : Hid (¬ p.Same q) := fun h => hn (h.2 k hlt).1
          clear hn hpo hqo c3 d3 v1 v2
          go_wp2
          go_quiet (fail)
          go_wp2
          go_ret
          exact ⟨false, rfl, by simp; exact HN.out, _, World.drewN_drewN _ _ _⟩
      · go_wp2
        go_ret
        exact ⟨true, rfl, by simp; exact ⟨Hl.out, fun i hi => HS.out i (by omega)⟩, m, rfl⟩
  · have hl1 : ((p.len : Int) != (q.len : Int)) = true := by simp; omega
    have hl2 : ((p.len : Int) == (q.len : Int)) = false := by simp; omega
    go_enter Try.func22, Try.ntmps22
    go_wp2
    go_ret
    exact ⟨false, rfl, by simp; exact fun h => hl h.1, 0, rfl⟩

set_option maxHeartbeats 400000 in
theorem zzSame_any (a b : Option Addr) (cap cap' : Nat) (p q : PV) (w : World) (hp : ListAt 0 w a p) (hq : ListAt 0 w b q) (hpo : p.ok) (hqo : q.ok) (hpf : p.len ≤ 65536) (hqf : q.len ≤ 65536) :
    Calls Try.prog 13 #[.slice a p.len cap, .slice b q.len cap'] w fun e w' => e = .returned (.bool (p.same q)) ∧ ∃ n, w' = w.drewN n := by
  go_enter Try.func13, Try.ntmps13
  go_wp2_with (go_at_call 22; refine (same_any a b cap cap' p q _ hp hq hpo hqo hpf hqf).mono ?_; rintro e w' ⟨r, rfl, hr, n, rfl⟩)
  go_ret
  have e : r = p.same q := by
    rw [← PV.same_iff] at hr
    cases r <;> cases h : p.same q <;> simp_all
  subst e
  exact ⟨rfl, n, rfl⟩
end Go.Proofs.Qxb6621669a
