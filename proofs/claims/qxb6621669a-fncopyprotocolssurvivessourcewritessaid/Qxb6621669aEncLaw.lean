/-
  sameBytes; and the plain law: two lists have the same text exactly when they are the same.
-/
import Derived.Test.Qxb6621669aEnc
set_option linter.unusedVariables false
namespace Go.Proofs.Qxb6621669a
open Go.RowKit

/-- As many bytes, and the same. -/
def eqB (len len' : Nat) (z z' : Nat → Int) : Bool := len == len' && (List.range len).all fun j => z j == z' j

theorem eqB_iff (len len' : Nat) (z z' : Nat → Int) : eqB len len' z z' = true ↔ len = len' ∧ ∀ j, j < len → z j = z' j := by
  simp [eqB]

set_option maxHeartbeats 1000000 in
theorem sameBytes_any (a b : Option Addr) (len len' cap cap' : Nat) (z z' : Nat → Int) (w : World) (ha : BytesAt 0 w a len z) (hb : BytesAt 0 w b len' z') (hl : len ≤ 9223372036854775807) (hl' : len' ≤ 9223372036854775807) :
    Calls Try.prog 14 #[.slice a len cap, .slice b len' cap'] w fun e w' => e = .returned (.bool (eqB len len' z z')) ∧ ∃ n, w' = w.drewN n := by
  by_cases he : len = len'
  · subst he
    have hl1 : ((len : Int) != (len : Int)) = false := by simp
    go_enter Try.func14, Try.ntmps14
    go_wp2
    go_loopw [5, 13] (fun _ c wr => ∃ k m : Nat, k ≤ len ∧ c = .int .i64 k ∧ wr = w.drewN m ∧ ∀ j, j < k → z j = z' j) (fun _ c _ => len - (intOf c).toNat)
    case atStart => exact ⟨0, 0, Nat.zero_le _, rfl, rfl, fun i hi => absurd hi (Nat.not_lt_zero _)⟩
    case round =>
      obtain ⟨k, m, hk, rfl, rfl, hsm⟩ := hrel
      have HS := hide hsm
      clear hsm
      by_cases hlt : k < len
      · rcases ha with ha | ⟨b1, o1, rfl, _, _, hc1⟩
        · omega
        rcases hb with hb | ⟨b2, o2, rfl, _, _, hc2⟩
        · omega
        have c1 := hc1 k hlt
        have c2 := hc2 k hlt
        clear hc1 hc2
        have hi1 : (k : Int) < (len : Int) := by omega
        by_cases hz : z k = z' k
        · have hz1 : (z k == z' k) = true := by simp [hz]
          have hz2 : (z k != z' k) = false := by simp [hz]
          have HZ := hide hz
          clear hz
          go_wp2
          go_quiet (fail)
          go_wp2
          go_roundw
          case rel =>
            refine ⟨k + 1, _, by omega, by go_num, rfl, fun j hj => ?_⟩
            by_cases hjk : j < k
            · exact unhide HS j hjk
            · have : j = k := by omega
              subst this
              exact unhide HZ
          case measure => simp [intOf]; omega
        · have hz1 : (z k == z' k) = false := by simp [hz]
          have hz2 : (z k != z' k) = true := by simp [hz]
          have HE := hide (show eqB len len z z' = false by
            rw [← Bool.not_eq_true, eqB_iff]
            exact fun h => hz (h.2 k hlt))
          clear hz
          go_wp2
          go_quiet (fail)
          go_wp2
          go_ret
          exact ⟨by rw [unhide HE]; rfl, _, World.drewN_drewN _ _ _⟩
      · have HE := hide (show eqB len len z z' = true from (eqB_iff _ _ _ _).2 ⟨rfl, fun j hj => unhide HS j (by omega)⟩)
        go_wp2
        go_ret
        exact ⟨by rw [unhide HE]; rfl, m, rfl⟩
  · have hl1 : ((len : Int) != (len' : Int)) = true := by simp; omega
    have hl2 : ((len : Int) == (len' : Int)) = false := by simp; omega
    have HE := hide (show eqB len len' z z' = false by rw [← Bool.not_eq_true, eqB_iff]; exact fun h => he h.1)
    go_enter Try.func14, Try.ntmps14
    go_wp2
    go_ret
    exact ⟨by rw [unhide HE]; rfl, 0, rfl⟩

/-! ### The plain law -/

theorem le_inj (m : Nat) : ∀ n n', n < 256 ^ m → n' < 256 ^ m → le n m = le n' m → n = n' := by
  induction m with
  | zero => intro n n' h h' _; simp at h h'; omega
  | succ m ih =>
    intro n n' h h' e
    rw [Nat.pow_succ] at h h'
    simp only [le, List.cons.injEq] at e
    have := ih (n / 256) (n' / 256) (by omega) (by omega) e.2
    have h1 := e.1
    omega

theorem le8_inj {n n' : Nat} (h : n ≤ 1048576) (h' : n' ≤ 1048576) (e : le n 8 = le n' 8) : n = n' :=
  le_inj 8 n n' (by have : 256 ^ 8 = 18446744073709551616 := by decide
                    omega) (by have : 256 ^ 8 = 18446744073709551616 := by decide
                               omega) e

theorem app_inj {α : Type} {a b c d : List α} (h : a ++ b = c ++ d) (hl : a.length = c.length) : a = c ∧ b = d := List.append_inj h hl

theorem nmL_inj {s t : ByteArray} (h : nmL s = nmL t) : s = t := by
  unfold nmL at h
  apply ByteArray.ext
  apply Array.toList_inj.1
  exact List.map_inj_right (fun x y hxy => by
    have : x.toNat = y.toNat := by omega
    exact UInt8.toNat_inj.1 this) |>.1 h

/-- The text of an entry tells where it ends. -/
theorem ent_inj {p q : PV} {i j : Nat} {X Y : List Int} (hp : (p.nm i).size ≤ 1048576 ∧ p.ml i ≤ 1048576) (hq : (q.nm j).size ≤ 1048576 ∧ q.ml j ≤ 1048576) (h : ent p i ++ X = ent q j ++ Y) :
    p.nm i = q.nm j ∧ p.ml i = q.ml j ∧ (∀ l, l < p.ml i → p.bs i l = q.bs j l) ∧ X = Y := by
  unfold ent at h
  simp only [List.append_assoc] at h
  obtain ⟨h1, h⟩ := app_inj h (by rw [le_length, le_length])
  have e1 := le8_inj hp.1 hq.1 h1
  obtain ⟨h2, h⟩ := app_inj h (by rw [nmL_length, nmL_length, e1])
  obtain ⟨h3, h⟩ := app_inj h (by rw [le_length, le_length])
  have e3 := le8_inj hp.2 hq.2 h3
  obtain ⟨h4, h5⟩ := app_inj h (by rw [bytesL_length, bytesL_length, e3])
  refine ⟨nmL_inj h2, e3, fun l hl => ?_, h5⟩
  unfold bytesL at h4
  rw [← e3] at h4
  exact List.map_inj_left.1 h4 l (List.mem_range.2 hl)

theorem ents_inj {p q : PV} (hp : p.small) (hq : q.small) : ∀ (n s : Nat), s + n ≤ p.len → s + n ≤ q.len → (List.range' s n).flatMap (ent p) = (List.range' s n).flatMap (ent q) →
    ∀ i, s ≤ i → i < s + n → p.nm i = q.nm i ∧ p.ml i = q.ml i ∧ ∀ l, l < p.ml i → p.bs i l = q.bs i l := by
  intro n
  induction n with
  | zero => intro s _ _ _ i h1 h2; omega
  | succ n ih =>
    intro s h1 h2 h i hi1 hi2
    simp only [List.range'_succ, List.flatMap_cons] at h
    obtain ⟨g1, g2, g3, g4⟩ := ent_inj (hp.2 s (by omega)) (hq.2 s (by omega)) h
    by_cases e : i = s
    · subst e
      exact ⟨g1, g2, g3⟩
    · exact ih (s + 1) (by omega) (by omega) g4 i (by omega) (by omega)

theorem ent_congr {p q : PV} {i : Nat} (h : p.nm i = q.nm i ∧ p.ml i = q.ml i ∧ ∀ l, l < p.ml i → p.bs i l = q.bs i l) : ent p i = ent q i := by
  unfold ent bytesL
  rw [h.1, ← h.2.1, List.map_congr_left fun l hl => h.2.2 l (List.mem_range.1 hl)]

theorem enc_iff {p q : PV} (hp : p.small) (hq : q.small) : encTo p p.len = encTo q q.len ↔ p.Same q := by
  constructor
  · intro h
    unfold encTo at h
    obtain ⟨h1, h2⟩ := app_inj h (by rw [le_length, le_length])
    have e : p.len = q.len := le8_inj (by have := hp.1; omega) (by have := hq.1; omega) h1
    rw [← e] at h2
    rw [List.range_eq_range'] at h2
    exact ⟨e, fun i hi => ents_inj hp hq p.len 0 (by omega) (by omega) h2 i (by omega) (by omega)⟩
  · rintro ⟨e, h⟩
    unfold encTo
    rw [← e, List.flatMap_def, List.flatMap_def, List.map_congr_left fun i hi => ent_congr (h i (List.mem_range.1 hi))]

end Go.Proofs.Qxb6621669a
