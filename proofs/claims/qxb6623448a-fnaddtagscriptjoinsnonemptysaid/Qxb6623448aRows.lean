/-
  No cell of these rows narrows 'for every input' (looked for: loops, veiled, ifaces, maps, wideKeys, modest, calm, conditions, laid).
  DERIVED. THE GIVEN ROWS OF THIS SEAT. 1 by the template 'for every input the law returns true; each argument reads behind the call as it read before'; 0 by the template 'total and deterministic' (their statements: Qxb6623448aTotals.lean).
  GIVEN WITH THE SEED: the statements are not yours to turn. If you find one false, say at which input.
  Laid BY PROGRAM, IN A SANDBOX (cutbox-rows.mjs): the forced cells as the released guide's own fill.sh prints them over the translation 956234461292e913… (all of the seat's roots in one cut). By AI agents, Wed Nov 11 2026. No macro, syntax, notation, axiom, sorry.
-/
import Derived.Test.Qxb6623448aChecked
import GoSem.Claim
import GoSem.ClaimJoined
import GoSem.ClaimMapViews
import Derived.JoinedTies
import Derived.KernelRfl
namespace Go.Proofs.Qxb6623448a
/- THE CELL 'sum', in the pinned program and in every row, IS THE sha256 OF THE DUMP (.gsa) THAT Qxb6623448aProg.lean LOADS. Nothing in Lean hashes anything: it is a label: what it is worth is what the hold of that sum in a sandbox is worth. -/
noncomputable def Try.pinned : Pinned := { name := "qxb6623448a", sum := "956234461292e913b95c8d6db85ebb6052bb33f4e3194964495f3f850c6c4cce", checked := Try.checked }
namespace Rows
def none {H : Type} : Left H := { results := [], args := [] }

/-- 'zzlaws_pkg_tags_b1.FnAddTagScriptJoinsNonEmpty': WHATEVER THE INPUT: true; the input reads as it did. -/
def fnAddTagScriptJoinsNonEmptySpec : ChangeSpec := { name := "fnAddTagScriptJoinsNonEmpty", fn := fun _ => fun
  | [d1, d2] => { results := [.lit (.bool true)], args := [d1, d2] }
  | _ => none }
def fnAddTagScriptJoinsNonEmptyRow : OpenClaim := { program := "qxb6623448a", sum := "956234461292e913b95c8d6db85ebb6052bb33f4e3194964495f3f850c6c4cce", func := "example.com/ledgerline/ledgerline/zzlaws_pkg_tags_b1.FnAddTagScriptJoinsNonEmpty", spec := "fnAddTagScriptJoinsNonEmpty", apart := false }
def FnAddTagScriptJoinsNonEmptySaid : Prop := fnAddTagScriptJoinsNonEmptyRow.holds Try.pinned (OpenSpec.ofChange fnAddTagScriptJoinsNonEmptySpec)

/-- ITS FALSE NEIGHBOUR: 'it returns false'. Refute it at one input. -/
def fnAddTagScriptJoinsNonEmptyWrong : ChangeSpec := { name := "fnAddTagScriptJoinsNonEmpty", fn := fun _ => fun
  | [d1, d2] => { results := [.lit (.bool false)], args := [d1, d2] }
  | _ => none }
def FnAddTagScriptJoinsNonEmptyWrongFalsely : Prop := fnAddTagScriptJoinsNonEmptyRow.holds Try.pinned (OpenSpec.ofChange fnAddTagScriptJoinsNonEmptyWrong)

end Rows
end Go.Proofs.Qxb6623448a
