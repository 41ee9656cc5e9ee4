/-
  No cell of these rows narrows 'for every input' (looked for: loops, veiled, ifaces, maps, wideKeys, modest, calm, conditions, laid).
  DERIVED. THE GIVEN ROWS OF THIS SEAT. 3 by the template 'for every input the law returns true; each argument reads behind the call as it read before'; 0 by the template 'total and deterministic' (their statements: Qxb6606026aTotals.lean).
  GIVEN WITH THE SEED: the statements are not yours to turn. If you find one false, say at which input.
  Laid BY PROGRAM, IN A SANDBOX (cutbox-rows.mjs): the forced cells as the released guide's own fill.sh prints them over the translation ca08309ef17aa46b… (all of the seat's roots in one cut). By AI agents, Wed Nov 11 2026. No macro, syntax, notation, axiom, sorry.
-/
import Derived.Test.Qxb6606026aChecked
import GoSem.Claim
import GoSem.ClaimJoined
import GoSem.ClaimMapViews
import Derived.JoinedTies
import Derived.KernelRfl
namespace Go.Proofs.Qxb6606026a
/- THE CELL 'sum', in the pinned program and in every row, IS THE sha256 OF THE DUMP (.gsa) THAT Qxb6606026aProg.lean LOADS. Nothing in Lean hashes anything: it is a label: what it is worth is what the hold of that sum in a sandbox is worth. -/
noncomputable def Try.pinned : Pinned := { name := "qxb6606026a", sum := "ca08309ef17aa46bee9bd50ccc0b49ccb4c8421791b61127b077ebb99dd176f5", checked := Try.checked }
namespace Rows
def none {H : Type} : Left H := { results := [], args := [] }

/-- 'zzlaws_federation_b1.FnMultiplyMatricesIsTheIntegerProduct': WHATEVER THE INPUT: true; the input reads as it did. -/
def fnMultiplyMatricesIsTheIntegerProductSpec : ChangeSpec := { name := "fnMultiplyMatricesIsTheIntegerProduct", fn := fun _ => fun
  | [d1, d2] => { results := [.lit (.bool true)], args := [d1, d2] }
  | _ => none }
def fnMultiplyMatricesIsTheIntegerProductRow : OpenClaim := { program := "qxb6606026a", sum := "ca08309ef17aa46bee9bd50ccc0b49ccb4c8421791b61127b077ebb99dd176f5", func := "example.com/nox-train/nox-train/zzlaws_federation_b1.FnMultiplyMatricesIsTheIntegerProduct", spec := "fnMultiplyMatricesIsTheIntegerProduct", apart := false }
def FnMultiplyMatricesIsTheIntegerProductSaid : Prop := fnMultiplyMatricesIsTheIntegerProductRow.holds Try.pinned (OpenSpec.ofChange fnMultiplyMatricesIsTheIntegerProductSpec)

/-- ITS FALSE NEIGHBOUR: 'it returns false'. Refute it at one input. -/
def fnMultiplyMatricesIsTheIntegerProductWrong : ChangeSpec := { name := "fnMultiplyMatricesIsTheIntegerProduct", fn := fun _ => fun
  | [d1, d2] => { results := [.lit (.bool false)], args := [d1, d2] }
  | _ => none }
def FnMultiplyMatricesIsTheIntegerProductWrongFalsely : Prop := fnMultiplyMatricesIsTheIntegerProductRow.holds Try.pinned (OpenSpec.ofChange fnMultiplyMatricesIsTheIntegerProductWrong)

/-- 'zzlaws_federation_b1.FnMultiplyMatricesTransposeReversesOrder': WHATEVER THE INPUT: true; the input reads as it did. -/
def fnMultiplyMatricesTransposeReversesOrderSpec : ChangeSpec := { name := "fnMultiplyMatricesTransposeReversesOrder", fn := fun _ => fun
  | [d1, d2] => { results := [.lit (.bool true)], args := [d1, d2] }
  | _ => none }
def fnMultiplyMatricesTransposeReversesOrderRow : OpenClaim := { program := "qxb6606026a", sum := "ca08309ef17aa46bee9bd50ccc0b49ccb4c8421791b61127b077ebb99dd176f5", func := "example.com/nox-train/nox-train/zzlaws_federation_b1.FnMultiplyMatricesTransposeReversesOrder", spec := "fnMultiplyMatricesTransposeReversesOrder", apart := false }
def FnMultiplyMatricesTransposeReversesOrderSaid : Prop := fnMultiplyMatricesTransposeReversesOrderRow.holds Try.pinned (OpenSpec.ofChange fnMultiplyMatricesTransposeReversesOrderSpec)

/-- ITS FALSE NEIGHBOUR: 'it returns false'. Refute it at one input. -/
def fnMultiplyMatricesTransposeReversesOrderWrong : ChangeSpec := { name := "fnMultiplyMatricesTransposeReversesOrder", fn := fun _ => fun
  | [d1, d2] => { results := [.lit (.bool false)], args := [d1, d2] }
  | _ => none }
def FnMultiplyMatricesTransposeReversesOrderWrongFalsely : Prop := fnMultiplyMatricesTransposeReversesOrderRow.holds Try.pinned (OpenSpec.ofChange fnMultiplyMatricesTransposeReversesOrderWrong)

/-- 'zzlaws_federation_b1.FnMultiplyMatricesIdentityIsNeutral': WHATEVER THE INPUT: true; the input reads as it did. -/
def fnMultiplyMatricesIdentityIsNeutralSpec : ChangeSpec := { name := "fnMultiplyMatricesIdentityIsNeutral", fn := fun _ => fun
  | [d] => { results := [.lit (.bool true)], args := [d] }
  | _ => none }
def fnMultiplyMatricesIdentityIsNeutralRow : OpenClaim := { program := "qxb6606026a", sum := "ca08309ef17aa46bee9bd50ccc0b49ccb4c8421791b61127b077ebb99dd176f5", func := "example.com/nox-train/nox-train/zzlaws_federation_b1.FnMultiplyMatricesIdentityIsNeutral", spec := "fnMultiplyMatricesIdentityIsNeutral", apart := false }
def FnMultiplyMatricesIdentityIsNeutralSaid : Prop := fnMultiplyMatricesIdentityIsNeutralRow.holds Try.pinned (OpenSpec.ofChange fnMultiplyMatricesIdentityIsNeutralSpec)

/-- ITS FALSE NEIGHBOUR: 'it returns false'. Refute it at one input. -/
def fnMultiplyMatricesIdentityIsNeutralWrong : ChangeSpec := { name := "fnMultiplyMatricesIdentityIsNeutral", fn := fun _ => fun
  | [d] => { results := [.lit (.bool false)], args := [d] }
  | _ => none }
def FnMultiplyMatricesIdentityIsNeutralWrongFalsely : Prop := fnMultiplyMatricesIdentityIsNeutralRow.holds Try.pinned (OpenSpec.ofChange fnMultiplyMatricesIdentityIsNeutralWrong)

end Rows
end Go.Proofs.Qxb6606026a
