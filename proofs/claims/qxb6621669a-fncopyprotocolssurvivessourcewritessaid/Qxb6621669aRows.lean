/-
  No cell of these rows narrows 'for every input' (looked for: loops, veiled, ifaces, maps, wideKeys, modest, calm, conditions, laid).
  DERIVED. THE GIVEN ROWS OF THIS SEAT. 5 by the template 'for every input the law returns true; each argument reads behind the call as it read before'; 0 by the template 'total and deterministic' (their statements: Qxb6621669aTotals.lean).
  GIVEN WITH THE SEED: the statements are not yours to turn. If you find one false, say at which input.
  Laid BY PROGRAM, IN A SANDBOX (cutbox-rows.mjs): the forced cells as the released guide's own fill.sh prints them over the translation 0f724e5d46a68b14… (all of the seat's roots in one cut). By AI agents, Wed Nov 11 2026. No macro, syntax, notation, axiom, sorry.
-/
import Derived.Test.Qxb6621669aChecked
import GoSem.Claim
import GoSem.ClaimJoined
import GoSem.ClaimMapViews
import Derived.JoinedTies
import Derived.KernelRfl
namespace Go.Proofs.Qxb6621669a
/- THE CELL 'sum', in the pinned program and in every row, IS THE sha256 OF THE DUMP (.gsa) THAT Qxb6621669aProg.lean LOADS. Nothing in Lean hashes anything: it is a label: what it is worth is what the hold of that sum in a sandbox is worth. -/
noncomputable def Try.pinned : Pinned := { name := "qxb6621669a", sum := "0f724e5d46a68b14f23fde2296f804b627554f11ab2970094c26ad4591aefee7", checked := Try.checked }
namespace Rows
def none {H : Type} : Left H := { results := [], args := [] }

/-- 'zzlaws_pkg_group_b1.FnStateStringNames': WHATEVER THE INPUT: true; the input reads as it did. -/
def fnStateStringNamesSpec : ChangeSpec := { name := "fnStateStringNames", fn := fun _ => fun
  | [d1, d2] => { results := [.lit (.bool true)], args := [d1, d2] }
  | _ => none }
def fnStateStringNamesRow : OpenClaim := { program := "qxb6621669a", sum := "0f724e5d46a68b14f23fde2296f804b627554f11ab2970094c26ad4591aefee7", func := "example.com/driftlog/driftlog/zzlaws_pkg_group_b1.FnStateStringNames", spec := "fnStateStringNames", apart := false }
def FnStateStringNamesSaid : Prop := fnStateStringNamesRow.holds Try.pinned (OpenSpec.ofChange fnStateStringNamesSpec)

/-- ITS FALSE NEIGHBOUR: 'it returns false'. Refute it at one input. -/
def fnStateStringNamesWrong : ChangeSpec := { name := "fnStateStringNames", fn := fun _ => fun
  | [d1, d2] => { results := [.lit (.bool false)], args := [d1, d2] }
  | _ => none }
def FnStateStringNamesWrongFalsely : Prop := fnStateStringNamesRow.holds Try.pinned (OpenSpec.ofChange fnStateStringNamesWrong)

/-- 'zzlaws_pkg_group_b1.FnSameProtocolsByEncoding': WHATEVER THE INPUT: true; the input reads as it did. -/
def fnSameProtocolsByEncodingSpec : ChangeSpec := { name := "fnSameProtocolsByEncoding", fn := fun _ => fun
  | [d1, d2] => { results := [.lit (.bool true)], args := [d1, d2] }
  | _ => none }
def fnSameProtocolsByEncodingRow : OpenClaim := { program := "qxb6621669a", sum := "0f724e5d46a68b14f23fde2296f804b627554f11ab2970094c26ad4591aefee7", func := "example.com/driftlog/driftlog/zzlaws_pkg_group_b1.FnSameProtocolsByEncoding", spec := "fnSameProtocolsByEncoding", apart := false }
def FnSameProtocolsByEncodingSaid : Prop := fnSameProtocolsByEncodingRow.holds Try.pinned (OpenSpec.ofChange fnSameProtocolsByEncodingSpec)

/-- ITS FALSE NEIGHBOUR: 'it returns false'. Refute it at one input. -/
def fnSameProtocolsByEncodingWrong : ChangeSpec := { name := "fnSameProtocolsByEncoding", fn := fun _ => fun
  | [d1, d2] => { results := [.lit (.bool false)], args := [d1, d2] }
  | _ => none }
def FnSameProtocolsByEncodingWrongFalsely : Prop := fnSameProtocolsByEncodingRow.holds Try.pinned (OpenSpec.ofChange fnSameProtocolsByEncodingWrong)

/-- 'zzlaws_pkg_group_b1.FnSameProtocolsCut': WHATEVER THE INPUT: true; the input reads as it did. -/
def fnSameProtocolsCutSpec : ChangeSpec := { name := "fnSameProtocolsCut", fn := fun _ => fun
  | [d1, d2, d3] => { results := [.lit (.bool true)], args := [d1, d2, d3] }
  | _ => none }
def fnSameProtocolsCutRow : OpenClaim := { program := "qxb6621669a", sum := "0f724e5d46a68b14f23fde2296f804b627554f11ab2970094c26ad4591aefee7", func := "example.com/driftlog/driftlog/zzlaws_pkg_group_b1.FnSameProtocolsCut", spec := "fnSameProtocolsCut", apart := false }
def FnSameProtocolsCutSaid : Prop := fnSameProtocolsCutRow.holds Try.pinned (OpenSpec.ofChange fnSameProtocolsCutSpec)

/-- ITS FALSE NEIGHBOUR: 'it returns false'. Refute it at one input. -/
def fnSameProtocolsCutWrong : ChangeSpec := { name := "fnSameProtocolsCut", fn := fun _ => fun
  | [d1, d2, d3] => { results := [.lit (.bool false)], args := [d1, d2, d3] }
  | _ => none }
def FnSameProtocolsCutWrongFalsely : Prop := fnSameProtocolsCutRow.holds Try.pinned (OpenSpec.ofChange fnSameProtocolsCutWrong)

/-- 'zzlaws_pkg_group_b1.FnCopyProtocolsFreshEqual': WHATEVER THE INPUT: true; the input reads as it did. -/
def fnCopyProtocolsFreshEqualSpec : ChangeSpec := { name := "fnCopyProtocolsFreshEqual", fn := fun _ => fun
  | [d] => { results := [.lit (.bool true)], args := [d] }
  | _ => none }
def fnCopyProtocolsFreshEqualRow : OpenClaim := { program := "qxb6621669a", sum := "0f724e5d46a68b14f23fde2296f804b627554f11ab2970094c26ad4591aefee7", func := "example.com/driftlog/driftlog/zzlaws_pkg_group_b1.FnCopyProtocolsFreshEqual", spec := "fnCopyProtocolsFreshEqual", apart := false }
def FnCopyProtocolsFreshEqualSaid : Prop := fnCopyProtocolsFreshEqualRow.holds Try.pinned (OpenSpec.ofChange fnCopyProtocolsFreshEqualSpec)

/-- ITS FALSE NEIGHBOUR: 'it returns false'. Refute it at one input. -/
def fnCopyProtocolsFreshEqualWrong : ChangeSpec := { name := "fnCopyProtocolsFreshEqual", fn := fun _ => fun
  | [d] => { results := [.lit (.bool false)], args := [d] }
  | _ => none }
def FnCopyProtocolsFreshEqualWrongFalsely : Prop := fnCopyProtocolsFreshEqualRow.holds Try.pinned (OpenSpec.ofChange fnCopyProtocolsFreshEqualWrong)

/-- 'zzlaws_pkg_group_b1.FnCopyProtocolsSurvivesSourceWrites': WHATEVER THE INPUT: true; the input reads as it did. -/
def fnCopyProtocolsSurvivesSourceWritesSpec : ChangeSpec := { name := "fnCopyProtocolsSurvivesSourceWrites", fn := fun _ => fun
  | [d] => { results := [.lit (.bool true)], args := [d] }
  | _ => none }
def fnCopyProtocolsSurvivesSourceWritesRow : OpenClaim := { program := "qxb6621669a", sum := "0f724e5d46a68b14f23fde2296f804b627554f11ab2970094c26ad4591aefee7", func := "example.com/driftlog/driftlog/zzlaws_pkg_group_b1.FnCopyProtocolsSurvivesSourceWrites", spec := "fnCopyProtocolsSurvivesSourceWrites", apart := false }
def FnCopyProtocolsSurvivesSourceWritesSaid : Prop := fnCopyProtocolsSurvivesSourceWritesRow.holds Try.pinned (OpenSpec.ofChange fnCopyProtocolsSurvivesSourceWritesSpec)

/-- ITS FALSE NEIGHBOUR: 'it returns false'. Refute it at one input. -/
def fnCopyProtocolsSurvivesSourceWritesWrong : ChangeSpec := { name := "fnCopyProtocolsSurvivesSourceWrites", fn := fun _ => fun
  | [d] => { results := [.lit (.bool false)], args := [d] }
  | _ => none }
def FnCopyProtocolsSurvivesSourceWritesWrongFalsely : Prop := fnCopyProtocolsSurvivesSourceWritesRow.holds Try.pinned (OpenSpec.ofChange fnCopyProtocolsSurvivesSourceWritesWrong)

end Rows
end Go.Proofs.Qxb6621669a
