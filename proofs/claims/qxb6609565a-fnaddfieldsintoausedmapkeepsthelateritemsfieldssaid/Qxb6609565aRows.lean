/-
  No cell of these rows narrows 'for every input' (looked for: loops, veiled, ifaces, maps, wideKeys, modest, calm, conditions, laid).
  DERIVED. THE GIVEN ROWS OF THIS SEAT. 1 by the template 'for every input the law returns true; each argument reads behind the call as it read before'; 0 by the template 'total and deterministic' (their statements: Qxb6609565aTotals.lean).
  GIVEN WITH THE SEED: the statements are not yours to turn. If you find one false, say at which input.
  Laid BY PROGRAM, IN A SANDBOX (cutbox-rows.mjs): the forced cells as the released guide's own fill.sh prints them over the translation d28a701a1a790b30… (all of the seat's roots in one cut). By AI agents, Wed Nov 11 2026. No macro, syntax, notation, axiom, sorry.
-/
import Derived.Test.Qxb6609565aChecked
import GoSem.Claim
import GoSem.ClaimJoined
import GoSem.ClaimMapViews
import Derived.JoinedTies
import Derived.KernelRfl
namespace Go.Proofs.Qxb6609565a
/- THE CELL 'sum', in the pinned program and in every row, IS THE sha256 OF THE DUMP (.gsa) THAT Qxb6609565aProg.lean LOADS. Nothing in Lean hashes anything: it is a label: what it is worth is what the hold of that sum in a sandbox is worth. -/
noncomputable def Try.pinned : Pinned := { name := "qxb6609565a", sum := "d28a701a1a790b3073e05d1495274feba81014f70e571a37ea19aa581c00d5fb", checked := Try.checked }
namespace Rows
def none {H : Type} : Left H := { results := [], args := [] }

/-- 'zzlaws_internal_item_b1.FnAddFieldsIntoAUsedMapKeepsTheLaterItemsFields': WHATEVER THE INPUT: true; the input reads as it did. -/
def fnAddFieldsIntoAUsedMapKeepsTheLaterItemsFieldsSpec : ChangeSpec := { name := "fnAddFieldsIntoAUsedMapKeepsTheLaterItemsFields", fn := fun _ => fun
  | [d1, d2, d3, d4, d5, d6, d7, d8, d9, d10] => { results := [.lit (.bool true)], args := [d1, d2, d3, d4, d5, d6, d7, d8, d9, d10] }
  | _ => none }
def fnAddFieldsIntoAUsedMapKeepsTheLaterItemsFieldsRow : OpenClaim := { program := "qxb6609565a", sum := "d28a701a1a790b3073e05d1495274feba81014f70e571a37ea19aa581c00d5fb", func := "example.com/saltwire/saltwire/zzlaws_internal_item_b1.FnAddFieldsIntoAUsedMapKeepsTheLaterItemsFields", spec := "fnAddFieldsIntoAUsedMapKeepsTheLaterItemsFields", apart := false }
def FnAddFieldsIntoAUsedMapKeepsTheLaterItemsFieldsSaid : Prop := fnAddFieldsIntoAUsedMapKeepsTheLaterItemsFieldsRow.holds Try.pinned (OpenSpec.ofChange fnAddFieldsIntoAUsedMapKeepsTheLaterItemsFieldsSpec)

/-- ITS FALSE NEIGHBOUR: 'it returns false'. Refute it at one input. -/
def fnAddFieldsIntoAUsedMapKeepsTheLaterItemsFieldsWrong : ChangeSpec := { name := "fnAddFieldsIntoAUsedMapKeepsTheLaterItemsFields", fn := fun _ => fun
  | [d1, d2, d3, d4, d5, d6, d7, d8, d9, d10] => { results := [.lit (.bool false)], args := [d1, d2, d3, d4, d5, d6, d7, d8, d9, d10] }
  | _ => none }
def FnAddFieldsIntoAUsedMapKeepsTheLaterItemsFieldsWrongFalsely : Prop := fnAddFieldsIntoAUsedMapKeepsTheLaterItemsFieldsRow.holds Try.pinned (OpenSpec.ofChange fnAddFieldsIntoAUsedMapKeepsTheLaterItemsFieldsWrong)

end Rows
end Go.Proofs.Qxb6609565a
