/-
  localize's ZZMeet (7), out of meet's contract.
-/
import Derived.Test.Qxb6623474aDoorNew
set_option linter.unusedVariables false
namespace Go.Proofs.Qxb6623474aDoor
open Go.RowKit Go.Maps

/-- meet's contract. -/
def MeetsOk : Prop := ∀ (B sb cm em k kt : Nat) (tv : Value) (st : Sea) (a : Atom) (w : World), SeaAt w B cm em k st → SbAt w sb cm em tv → TrailAt w B tv kt → B ≤ sb → cm ≠ em → k < 100000 → kt < 100000 → a.dom → I64 a.col → B ≤ w.heap.size → Tab B w →
  Calls Tryd.prog 10 #[.pointer (some ⟨sb, 0, none⟩), a.val] w fun e w' => e = .returned (.bool (meetB st a)) ∧ Below B w w' ∧ (meetB st a = true → ∃ tv, SeaAt w' B cm em (k + 2) (next st a) ∧ SbAt w' sb cm em tv ∧ TrailAt w' B tv (kt + 1))

def ZmPost (A : Nat → Atom) (B sb cm em i : Nat) (st : Sea) (w : World) (e : Ending) (w' : World) : Prop :=
  e = .returned (.bool (meetB st (A i))) ∧ Below B w w' ∧ (meetB st (A i) = true → ∃ st' tv', SxAt w' B sb cm em A (i + 1) st' tv')

set_option maxHeartbeats 1000000 in
theorem zm_walk (hM : MeetsOk) (A : Nat → Atom) (B sb cm em i : Nat) (st : Sea) (tv : Value) (w : World) (hx : SxAt w B sb cm em A i st tv) (hi : i < 512) (hd : (A i).dom) (hc : I64 (A i).col) (hB : B ≤ w.heap.size) (htab : Tab B w) :
    Calls Tryd.prog 7 #[.pointer (some ⟨sb, 0, none⟩), .int .i64 (A i).col, .int .u8 (A i).op, .int .u8 (A i).ty, .bool (A i).nul, .int .i64 (A i).n, .string (A i).str] w (ZmPost A B sb cm em i st w) := by
  have MW := hM B sb cm em (2 * i) i tv st (A i) w hx.sea hx.hs hx.trail hx.hsb hx.ne (by omega) (by omega) hd hc hB htab
  have HX := hide hx
  clear hx hM
  go_enter Tryd.func7, Tryd.ntmps7
  go_wp2_with (go_at_call 10; refine MW.mono ?_; rintro e w1 ⟨rfl, b1, h1⟩; have H1 := hide h1; clear h1)
  go_ret
  refine ⟨rfl, b1, fun h => ?_⟩
  obtain ⟨tv', s1, s2, s3⟩ := unhide H1 h
  exact ⟨_, tv', ⟨s1, s2, s3, next_rep (unhide HX).rep hd h, (unhide HX).hsb, (unhide HX).ne⟩⟩

end Go.Proofs.Qxb6623474aDoor
