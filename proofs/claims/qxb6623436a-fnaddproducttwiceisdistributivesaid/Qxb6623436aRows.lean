/-
  No cell of these rows narrows 'for every input' (looked for: loops, veiled, ifaces, maps, wideKeys, modest, calm, conditions, laid).
  DERIVED. THE GIVEN ROWS OF THIS SEAT. 2 by the template 'for every input the law returns true; each argument reads behind the call as it read before'; 0 by the template 'total and deterministic' (their statements: Qxb6623436aTotals.lean).
  GIVEN WITH THE SEED: the statements are not yours to turn. If you find one false, say at which input.
  Laid BY PROGRAM, IN A SANDBOX (cutbox-rows.mjs): the forced cells as the released guide's own fill.sh prints them over the translation c89bd071d45bfaa7… (all of the seat's roots in one cut). By AI agents, Wed Nov 11 2026. No macro, syntax, notation, axiom, sorry.
-/
import Derived.Test.Qxb6623436aChecked
import GoSem.Claim
import GoSem.ClaimJoined
import GoSem.ClaimMapViews
import Derived.JoinedTies
import Derived.KernelRfl
namespace Go.Proofs.Qxb6623436a
/- THE CELL 'sum', in the pinned program and in every row, IS THE sha256 OF THE DUMP (.gsa) THAT Qxb6623436aProg.lean LOADS. Nothing in Lean hashes anything: it is a label: what it is worth is what the hold of that sum in a sandbox is worth. -/
noncomputable def Try.pinned : Pinned := { name := "qxb6623436a", sum := "c89bd071d45bfaa74c2971c2647a34da381288645515a1ab9a5874e725d572e6", checked := Try.checked }
namespace Rows
def none {H : Type} : Left H := { results := [], args := [] }

/-- 'zzlaws_internal_field_b1.FnAddProductCommutesAndIsExact': WHATEVER THE INPUT: true; the input reads as it did. -/
def fnAddProductCommutesAndIsExactSpec : ChangeSpec := { name := "fnAddProductCommutesAndIsExact", fn := fun _ => fun
  | [d1, d2, d3, d4, d5, d6, d7, d8, d9] => { results := [.lit (.bool true)], args := [d1, d2, d3, d4, d5, d6, d7, d8, d9] }
  | _ => none }
def fnAddProductCommutesAndIsExactRow : OpenClaim := { program := "qxb6623436a", sum := "c89bd071d45bfaa74c2971c2647a34da381288645515a1ab9a5874e725d572e6", func := "example.com/holdfast/holdfast/zzlaws_internal_field_b1.FnAddProductCommutesAndIsExact", spec := "fnAddProductCommutesAndIsExact", inPlace := ["math/bits.Add64"], apart := false }
def FnAddProductCommutesAndIsExactSaid : Prop := fnAddProductCommutesAndIsExactRow.holds Try.pinned (OpenSpec.ofChange fnAddProductCommutesAndIsExactSpec)

/-- ITS FALSE NEIGHBOUR: 'it returns false'. Refute it at one input. -/
def fnAddProductCommutesAndIsExactWrong : ChangeSpec := { name := "fnAddProductCommutesAndIsExact", fn := fun _ => fun
  | [d1, d2, d3, d4, d5, d6, d7, d8, d9] => { results := [.lit (.bool false)], args := [d1, d2, d3, d4, d5, d6, d7, d8, d9] }
  | _ => none }
def FnAddProductCommutesAndIsExactWrongFalsely : Prop := fnAddProductCommutesAndIsExactRow.holds Try.pinned (OpenSpec.ofChange fnAddProductCommutesAndIsExactWrong)

/-- 'zzlaws_internal_field_b1.FnAddProductTwiceIsDistributive': WHATEVER THE INPUT: true; the input reads as it did. -/
def fnAddProductTwiceIsDistributiveSpec : ChangeSpec := { name := "fnAddProductTwiceIsDistributive", fn := fun _ => fun
  | [d1, d2, d3, d4, d5, d6, d7, d8, d9, d10, d11] => { results := [.lit (.bool true)], args := [d1, d2, d3, d4, d5, d6, d7, d8, d9, d10, d11] }
  | _ => none }
def fnAddProductTwiceIsDistributiveRow : OpenClaim := { program := "qxb6623436a", sum := "c89bd071d45bfaa74c2971c2647a34da381288645515a1ab9a5874e725d572e6", func := "example.com/holdfast/holdfast/zzlaws_internal_field_b1.FnAddProductTwiceIsDistributive", spec := "fnAddProductTwiceIsDistributive", inPlace := ["math/bits.Add64"], apart := false }
def FnAddProductTwiceIsDistributiveSaid : Prop := fnAddProductTwiceIsDistributiveRow.holds Try.pinned (OpenSpec.ofChange fnAddProductTwiceIsDistributiveSpec)

/-- ITS FALSE NEIGHBOUR: 'it returns false'. Refute it at one input. -/
def fnAddProductTwiceIsDistributiveWrong : ChangeSpec := { name := "fnAddProductTwiceIsDistributive", fn := fun _ => fun
  | [d1, d2, d3, d4, d5, d6, d7, d8, d9, d10, d11] => { results := [.lit (.bool false)], args := [d1, d2, d3, d4, d5, d6, d7, d8, d9, d10, d11] }
  | _ => none }
def FnAddProductTwiceIsDistributiveWrongFalsely : Prop := fnAddProductTwiceIsDistributiveRow.holds Try.pinned (OpenSpec.ofChange fnAddProductTwiceIsDistributiveWrong)

end Rows
end Go.Proofs.Qxb6623436a
