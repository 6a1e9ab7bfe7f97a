/-
  No cell of these rows narrows 'for every input' (looked for: loops, veiled, ifaces, maps, wideKeys, modest, calm, conditions, laid).
  DERIVED. THE GIVEN ROWS OF THIS SEAT. 2 by the template 'for every input the law returns true; each argument reads behind the call as it read before'; 0 by the template 'total and deterministic' (their statements: Qxb6612931aTotals.lean).
  GIVEN WITH THE SEED: the statements are not yours to turn. If you find one false, say at which input.
  Laid BY PROGRAM, IN A SANDBOX (cutbox-rows.mjs): the forced cells as the released guide's own fill.sh prints them over the translation be9a6e2901b5f3b3… (all of the seat's roots in one cut). By AI agents, Wed Nov 11 2026. No macro, syntax, notation, axiom, sorry.
-/
import Derived.Test.Qxb6612931aChecked
import GoSem.Claim
import GoSem.ClaimJoined
import GoSem.ClaimMapViews
import Derived.JoinedTies
import Derived.KernelRfl
namespace Go.Proofs.Qxb6612931a
/- THE CELL 'sum', in the pinned program and in every row, IS THE sha256 OF THE DUMP (.gsa) THAT Qxb6612931aProg.lean LOADS. Nothing in Lean hashes anything: it is a label: what it is worth is what the hold of that sum in a sandbox is worth. -/
noncomputable def Try.pinned : Pinned := { name := "qxb6612931a", sum := "be9a6e2901b5f3b3aaf8178f0ae60bab1eed39cabf97684b75b663f377929c29", checked := Try.checked }
namespace Rows
def none {H : Type} : Left H := { results := [], args := [] }

/-- 'zzlaws_root_b1.FnSameASCIIFoldsAsLowering': WHATEVER THE INPUT: true; the input reads as it did. -/
def fnSameASCIIFoldsAsLoweringSpec : ChangeSpec := { name := "fnSameASCIIFoldsAsLowering", fn := fun _ => fun
  | [d1, d2, d3] => { results := [.lit (.bool true)], args := [d1, d2, d3] }
  | _ => none }
def fnSameASCIIFoldsAsLoweringRow : OpenClaim := { program := "qxb6612931a", sum := "be9a6e2901b5f3b3aaf8178f0ae60bab1eed39cabf97684b75b663f377929c29", func := "example.com/request-policy-checker/request-policy-checker/zzlaws_root_b1.FnSameASCIIFoldsAsLowering", spec := "fnSameASCIIFoldsAsLowering", apart := false }
def FnSameASCIIFoldsAsLoweringSaid : Prop := fnSameASCIIFoldsAsLoweringRow.holds Try.pinned (OpenSpec.ofChange fnSameASCIIFoldsAsLoweringSpec)

/-- ITS FALSE NEIGHBOUR: 'it returns false'. Refute it at one input. -/
def fnSameASCIIFoldsAsLoweringWrong : ChangeSpec := { name := "fnSameASCIIFoldsAsLowering", fn := fun _ => fun
  | [d1, d2, d3] => { results := [.lit (.bool false)], args := [d1, d2, d3] }
  | _ => none }
def FnSameASCIIFoldsAsLoweringWrongFalsely : Prop := fnSameASCIIFoldsAsLoweringRow.holds Try.pinned (OpenSpec.ofChange fnSameASCIIFoldsAsLoweringWrong)

/-- 'zzlaws_root_b1.FnSameASCIIClassSizes': WHATEVER THE INPUT: true; the input reads as it did. -/
def fnSameASCIIClassSizesSpec : ChangeSpec := { name := "fnSameASCIIClassSizes", fn := fun _ => fun
  | [d1, d2] => { results := [.lit (.bool true)], args := [d1, d2] }
  | _ => none }
def fnSameASCIIClassSizesRow : OpenClaim := { program := "qxb6612931a", sum := "be9a6e2901b5f3b3aaf8178f0ae60bab1eed39cabf97684b75b663f377929c29", func := "example.com/request-policy-checker/request-policy-checker/zzlaws_root_b1.FnSameASCIIClassSizes", spec := "fnSameASCIIClassSizes", apart := false }
def FnSameASCIIClassSizesSaid : Prop := fnSameASCIIClassSizesRow.holds Try.pinned (OpenSpec.ofChange fnSameASCIIClassSizesSpec)

/-- ITS FALSE NEIGHBOUR: 'it returns false'. Refute it at one input. -/
def fnSameASCIIClassSizesWrong : ChangeSpec := { name := "fnSameASCIIClassSizes", fn := fun _ => fun
  | [d1, d2] => { results := [.lit (.bool false)], args := [d1, d2] }
  | _ => none }
def FnSameASCIIClassSizesWrongFalsely : Prop := fnSameASCIIClassSizesRow.holds Try.pinned (OpenSpec.ofChange fnSameASCIIClassSizesWrong)

end Rows
end Go.Proofs.Qxb6612931a
