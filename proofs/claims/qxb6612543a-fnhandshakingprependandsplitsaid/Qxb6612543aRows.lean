/-
  No cell of these rows narrows 'for every input' (looked for: loops, veiled, ifaces, maps, wideKeys, modest, calm, conditions, laid).
  DERIVED. THE GIVEN ROWS OF THIS SEAT. 2 by the template 'for every input the law returns true; each argument reads behind the call as it read before'; 0 by the template 'total and deterministic' (their statements: Qxb6612543aTotals.lean).
  GIVEN WITH THE SEED: the statements are not yours to turn. If you find one false, say at which input.
  Laid BY PROGRAM, IN A SANDBOX (cutbox-rows.mjs): the forced cells as the released guide's own fill.sh prints them over the translation a674bf114994ebf3… (all of the seat's roots in one cut). By AI agents, Wed Nov 11 2026. No macro, syntax, notation, axiom, sorry.
-/
import Derived.Test.Qxb6612543aChecked
import GoSem.Claim
import GoSem.ClaimJoined
import GoSem.ClaimMapViews
import Derived.JoinedTies
import Derived.KernelRfl
namespace Go.Proofs.Qxb6612543a
/- THE CELL 'sum', in the pinned program and in every row, IS THE sha256 OF THE DUMP (.gsa) THAT Qxb6612543aProg.lean LOADS. Nothing in Lean hashes anything: it is a label: what it is worth is what the hold of that sum in a sandbox is worth. -/
noncomputable def Try.pinned : Pinned := { name := "qxb6612543a", sum := "a674bf114994ebf31df4e3dad7ce19c6567276ca38e504a4d848bdd5bbf8eed7", checked := Try.checked }
namespace Rows
def none {H : Type} : Left H := { results := [], args := [] }

/-- 'zzlaws_root_b1.FnHandshakingCounts': WHATEVER THE INPUT: true; the input reads as it did. -/
def fnHandshakingCountsSpec : ChangeSpec := { name := "fnHandshakingCounts", fn := fun _ => fun
  | [d] => { results := [.lit (.bool true)], args := [d] }
  | _ => none }
def fnHandshakingCountsRow : OpenClaim := { program := "qxb6612543a", sum := "a674bf114994ebf31df4e3dad7ce19c6567276ca38e504a4d848bdd5bbf8eed7", func := "example.com/burrowlink/burrowlink/zzlaws_root_b1.FnHandshakingCounts", spec := "fnHandshakingCounts", plainKeys := false, apart := false }
def FnHandshakingCountsSaid : Prop := fnHandshakingCountsRow.holds Try.pinned (OpenSpec.ofChange fnHandshakingCountsSpec)

/-- ITS FALSE NEIGHBOUR: 'it returns false'. Refute it at one input. -/
def fnHandshakingCountsWrong : ChangeSpec := { name := "fnHandshakingCounts", fn := fun _ => fun
  | [d] => { results := [.lit (.bool false)], args := [d] }
  | _ => none }
def FnHandshakingCountsWrongFalsely : Prop := fnHandshakingCountsRow.holds Try.pinned (OpenSpec.ofChange fnHandshakingCountsWrong)

/-- 'zzlaws_root_b1.FnHandshakingPrependAndSplit': WHATEVER THE INPUT: true; the input reads as it did. -/
def fnHandshakingPrependAndSplitSpec : ChangeSpec := { name := "fnHandshakingPrependAndSplit", fn := fun _ => fun
  | [d1, d2, d3] => { results := [.lit (.bool true)], args := [d1, d2, d3] }
  | _ => none }
def fnHandshakingPrependAndSplitRow : OpenClaim := { program := "qxb6612543a", sum := "a674bf114994ebf31df4e3dad7ce19c6567276ca38e504a4d848bdd5bbf8eed7", func := "example.com/burrowlink/burrowlink/zzlaws_root_b1.FnHandshakingPrependAndSplit", spec := "fnHandshakingPrependAndSplit", plainKeys := false, apart := false }
def FnHandshakingPrependAndSplitSaid : Prop := fnHandshakingPrependAndSplitRow.holds Try.pinned (OpenSpec.ofChange fnHandshakingPrependAndSplitSpec)

/-- ITS FALSE NEIGHBOUR: 'it returns false'. Refute it at one input. -/
def fnHandshakingPrependAndSplitWrong : ChangeSpec := { name := "fnHandshakingPrependAndSplit", fn := fun _ => fun
  | [d1, d2, d3] => { results := [.lit (.bool false)], args := [d1, d2, d3] }
  | _ => none }
def FnHandshakingPrependAndSplitWrongFalsely : Prop := fnHandshakingPrependAndSplitRow.holds Try.pinned (OpenSpec.ofChange fnHandshakingPrependAndSplitWrong)

end Rows
end Go.Proofs.Qxb6612543a
