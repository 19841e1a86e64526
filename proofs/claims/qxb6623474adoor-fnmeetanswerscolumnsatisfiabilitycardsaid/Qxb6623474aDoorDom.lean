/-
  zzAtomInDomain (5).
-/
import Derived.Test.Qxb6623474aDoorHolds
set_option linter.unusedVariables false
set_option linter.unusedSimpArgs false
namespace Go.Proofs.Qxb6623474aDoor
open Go.RowKit

def DomPost (a : Atom) (w : World) (e : Ending) (w' : World) : Prop := ∃ r : Bool, e = .returned (.bool r) ∧ (r = true → a.dom) ∧ Below w.heap.size w w'

set_option maxHeartbeats 4000000 in
set_option maxRecDepth 100000 in
theorem dom_cmp (col op ty n : Int) (nul : Bool) (str : ByteArray) (w : World) (hop : op = 2 ∨ op = 3 ∨ op = 4 ∨ op = 5 ∨ op = 6 ∨ op = 7) :
    Calls Tryd.prog 5 #[Atom.val ⟨col, op, ty, nul, n, str⟩] w (DomPost ⟨col, op, ty, nul, n, str⟩ w) := by
  have hb : ∀ (o : Obj), Below w.heap.size w (w.alloc o) := fun o => (Below.refl _ _).alloc (Nat.le_refl _) _
  have hd1 : nul = true → Atom.dom ⟨col, op, ty, nul, n, str⟩ := fun h => .inr (.inr ⟨hop, .inl h⟩)
  have hd2 : (ty = 2 ∨ ty = 3) → -9223372036854775806 ≤ n → n ≤ 9223372036854775805 → Atom.dom ⟨col, op, ty, nul, n, str⟩ := fun h h0 h1 => .inr (.inr ⟨hop, .inr ⟨h, h0, h1⟩⟩)
  obtain ⟨A, hA⟩ : ∃ A : Atom, A = ⟨col, op, ty, nul, n, str⟩ := ⟨_, rfl⟩
  rw [← hA] at hd1 hd2
  rw [show DomPost ⟨col, op, ty, nul, n, str⟩ w = DomPost A w by rw [hA]]
  clear hA
  unfold Atom.val
  cases nul
  case true =>
    have hd := hd1 rfl
    clear hd1 hd2
    rcases hop with rfl | rfl | rfl | rfl | rfl | rfl <;>
    · go_enter Tryd.func5, Tryd.ntmps5
      go_wp2
      go_ret
      exact ⟨true, rfl, fun _ => hd, hb _⟩
  case false =>
    clear hd1
    by_cases ht : ty = 2 ∨ ty = 3
    · by_cases h0 : -9223372036854775806 ≤ n
      · by_cases h1 : n ≤ 9223372036854775805
        · have hd := hd2 ht h0 h1
          clear hd2
          rcases ht with rfl | rfl <;> rcases hop with rfl | rfl | rfl | rfl | rfl | rfl <;>
          · go_enter Tryd.func5, Tryd.ntmps5
            go_wp2
            go_ret
            exact ⟨_, rfl, fun _ => hd, hb _⟩
        · clear hd2
          rcases ht with rfl | rfl <;> rcases hop with rfl | rfl | rfl | rfl | rfl | rfl <;>
          · go_enter Tryd.func5, Tryd.ntmps5
            go_wp2
            go_ret
            exact ⟨false, by simp [h0, h1], fun h => Bool.noConfusion h, hb _⟩
      · clear hd2
        rcases ht with rfl | rfl <;> rcases hop with rfl | rfl | rfl | rfl | rfl | rfl <;>
        · go_enter Tryd.func5, Tryd.ntmps5
          go_wp2
          go_ret
          exact ⟨false, by simp [h0], fun h => Bool.noConfusion h, hb _⟩
    · have t2 : (ty != 2) = true := by simp; exact fun h => ht (.inl h)
      have t3 : (ty != 3) = true := by simp; exact fun h => ht (.inr h)
      clear hd2 ht
      rcases hop with rfl | rfl | rfl | rfl | rfl | rfl <;>
      · go_enter Tryd.func5, Tryd.ntmps5
        go_wp2
        go_ret
        exact ⟨false, rfl, fun h => Bool.noConfusion h, hb _⟩

set_option maxHeartbeats 2000000 in
set_option maxRecDepth 100000 in
theorem dom_walk (a : Atom) (w : World) : Calls Tryd.prog 5 #[a.val] w (DomPost a w) := by
  have hb : ∀ (o : Obj), Below w.heap.size w (w.alloc o) := fun o => (Below.refl _ _).alloc (Nat.le_refl _) _
  obtain ⟨col, op, ty, nul, n, str⟩ := a
  by_cases h : op = 2 ∨ op = 3 ∨ op = 4 ∨ op = 5 ∨ op = 6 ∨ op = 7
  · exact dom_cmp col op ty n nul str w h
  have h2 : op ≠ 2 := fun e => h (.inl e)
  have h3 : op ≠ 3 := fun e => h (.inr (.inl e))
  have h4 : op ≠ 4 := fun e => h (.inr (.inr (.inl e)))
  have h5 : op ≠ 5 := fun e => h (.inr (.inr (.inr (.inl e))))
  have h6 : op ≠ 6 := fun e => h (.inr (.inr (.inr (.inr (.inl e)))))
  have h7 : op ≠ 7 := fun e => h (.inr (.inr (.inr (.inr (.inr e)))))
  clear h
  unfold Atom.val
  by_cases h11 : op = 11
  · subst h11
    go_enter Tryd.func5, Tryd.ntmps5
    go_wp2
    go_ret
    exact ⟨true, rfl, fun _ => .inl rfl, hb _⟩
  by_cases h12 : op = 12
  · subst h12
    go_enter Tryd.func5, Tryd.ntmps5
    go_wp2
    go_ret
    exact ⟨true, rfl, fun _ => .inr (.inl rfl), hb _⟩
  · go_enter Tryd.func5, Tryd.ntmps5
    go_wp2
    go_ret
    exact ⟨false, rfl, fun h => Bool.noConfusion h, hb _⟩

end Go.Proofs.Qxb6623474aDoor
