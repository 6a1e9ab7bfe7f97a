/-
  No cell of these rows narrows 'for every input' (looked for: loops, veiled, ifaces, maps, wideKeys, modest, calm, conditions, laid).
  DERIVED. THE GIVEN ROWS OF THIS SEAT. 7 by the template 'for every input the law returns true; each argument reads behind the call as it read before'; 0 by the template 'total and deterministic' (their statements: Qxb6613362aTotals.lean).
  GIVEN WITH THE SEED: the statements are not yours to turn. If you find one false, say at which input.
  Laid BY PROGRAM, IN A SANDBOX (cutbox-rows.mjs): the forced cells as the released guide's own fill.sh prints them over the translation 5d5a494fab843449… (all of the seat's roots in one cut). By AI agents, Wed Nov 11 2026. No macro, syntax, notation, axiom, sorry.
-/
import Derived.Test.Qxb6613362aChecked
import GoSem.Claim
import GoSem.ClaimJoined
import GoSem.ClaimMapViews
import Derived.JoinedTies
import Derived.KernelRfl
namespace Go.Proofs.Qxb6613362a
/- THE CELL 'sum', in the pinned program and in every row, IS THE sha256 OF THE DUMP (.gsa) THAT Qxb6613362aProg.lean LOADS. Nothing in Lean hashes anything: it is a label: what it is worth is what the hold of that sum in a sandbox is worth. -/
noncomputable def Try.pinned : Pinned := { name := "qxb6613362a", sum := "5d5a494fab8434493d5f87eab6beca520162bf0c00d3ad302be79faaeace122b", checked := Try.checked }
namespace Rows
def none {H : Type} : Left H := { results := [], args := [] }

/-- 'zzlaws_internal_nfa_b1.FnInstPassesOneCopyMore': WHATEVER THE INPUT: true; the input reads as it did. -/
def fnInstPassesOneCopyMoreSpec : ChangeSpec := { name := "fnInstPassesOneCopyMore", fn := fun _ => fun
  | [d1, d2, d3, d4] => { results := [.lit (.bool true)], args := [d1, d2, d3, d4] }
  | _ => none }
def fnInstPassesOneCopyMoreRow : OpenClaim := { program := "qxb6613362a", sum := "5d5a494fab8434493d5f87eab6beca520162bf0c00d3ad302be79faaeace122b", func := "example.com/trawl/trawl/zzlaws_internal_nfa_b1.FnInstPassesOneCopyMore", spec := "fnInstPassesOneCopyMore", apart := false }
def FnInstPassesOneCopyMoreSaid : Prop := fnInstPassesOneCopyMoreRow.holds Try.pinned (OpenSpec.ofChange fnInstPassesOneCopyMoreSpec)

/-- ITS FALSE NEIGHBOUR: 'it returns false'. Refute it at one input. -/
def fnInstPassesOneCopyMoreWrong : ChangeSpec := { name := "fnInstPassesOneCopyMore", fn := fun _ => fun
  | [d1, d2, d3, d4] => { results := [.lit (.bool false)], args := [d1, d2, d3, d4] }
  | _ => none }
def FnInstPassesOneCopyMoreWrongFalsely : Prop := fnInstPassesOneCopyMoreRow.holds Try.pinned (OpenSpec.ofChange fnInstPassesOneCopyMoreWrong)

/-- 'zzlaws_internal_nfa_b1.FnInstPassesAsCopiesOfOne': WHATEVER THE INPUT: true; the input reads as it did. -/
def fnInstPassesAsCopiesOfOneSpec : ChangeSpec := { name := "fnInstPassesAsCopiesOfOne", fn := fun _ => fun
  | [d1, d2, d3, d4] => { results := [.lit (.bool true)], args := [d1, d2, d3, d4] }
  | _ => none }
def fnInstPassesAsCopiesOfOneRow : OpenClaim := { program := "qxb6613362a", sum := "5d5a494fab8434493d5f87eab6beca520162bf0c00d3ad302be79faaeace122b", func := "example.com/trawl/trawl/zzlaws_internal_nfa_b1.FnInstPassesAsCopiesOfOne", spec := "fnInstPassesAsCopiesOfOne", apart := false }
def FnInstPassesAsCopiesOfOneSaid : Prop := fnInstPassesAsCopiesOfOneRow.holds Try.pinned (OpenSpec.ofChange fnInstPassesAsCopiesOfOneSpec)

/-- ITS FALSE NEIGHBOUR: 'it returns false'. Refute it at one input. -/
def fnInstPassesAsCopiesOfOneWrong : ChangeSpec := { name := "fnInstPassesAsCopiesOfOne", fn := fun _ => fun
  | [d1, d2, d3, d4] => { results := [.lit (.bool false)], args := [d1, d2, d3, d4] }
  | _ => none }
def FnInstPassesAsCopiesOfOneWrongFalsely : Prop := fnInstPassesAsCopiesOfOneRow.holds Try.pinned (OpenSpec.ofChange fnInstPassesAsCopiesOfOneWrong)

/-- 'zzlaws_internal_nfa_b1.FnEveryAtAnyCut': WHATEVER THE INPUT: true; the input reads as it did. -/
def fnEveryAtAnyCutSpec : ChangeSpec := { name := "fnEveryAtAnyCut", fn := fun _ => fun
  | [d1, d2, d3] => { results := [.lit (.bool true)], args := [d1, d2, d3] }
  | _ => none }
def fnEveryAtAnyCutRow : OpenClaim := { program := "qxb6613362a", sum := "5d5a494fab8434493d5f87eab6beca520162bf0c00d3ad302be79faaeace122b", func := "example.com/trawl/trawl/zzlaws_internal_nfa_b1.FnEveryAtAnyCut", spec := "fnEveryAtAnyCut", unfollowed := true, recurses := true, apart := false }
def FnEveryAtAnyCutSaid : Prop := fnEveryAtAnyCutRow.holds Try.pinned (OpenSpec.ofChange fnEveryAtAnyCutSpec)

/-- ITS FALSE NEIGHBOUR: 'it returns false'. Refute it at one input. -/
def fnEveryAtAnyCutWrong : ChangeSpec := { name := "fnEveryAtAnyCut", fn := fun _ => fun
  | [d1, d2, d3] => { results := [.lit (.bool false)], args := [d1, d2, d3] }
  | _ => none }
def FnEveryAtAnyCutWrongFalsely : Prop := fnEveryAtAnyCutRow.holds Try.pinned (OpenSpec.ofChange fnEveryAtAnyCutWrong)

/-- 'zzlaws_internal_nfa_b1.FnEveryOneMorePutIn': WHATEVER THE INPUT: true; the input reads as it did. -/
def fnEveryOneMorePutInSpec : ChangeSpec := { name := "fnEveryOneMorePutIn", fn := fun _ => fun
  | [d1, d2, d3, d4] => { results := [.lit (.bool true)], args := [d1, d2, d3, d4] }
  | _ => none }
def fnEveryOneMorePutInRow : OpenClaim := { program := "qxb6613362a", sum := "5d5a494fab8434493d5f87eab6beca520162bf0c00d3ad302be79faaeace122b", func := "example.com/trawl/trawl/zzlaws_internal_nfa_b1.FnEveryOneMorePutIn", spec := "fnEveryOneMorePutIn", unfollowed := true, recurses := true, apart := false }
def FnEveryOneMorePutInSaid : Prop := fnEveryOneMorePutInRow.holds Try.pinned (OpenSpec.ofChange fnEveryOneMorePutInSpec)

/-- ITS FALSE NEIGHBOUR: 'it returns false'. Refute it at one input. -/
def fnEveryOneMorePutInWrong : ChangeSpec := { name := "fnEveryOneMorePutIn", fn := fun _ => fun
  | [d1, d2, d3, d4] => { results := [.lit (.bool false)], args := [d1, d2, d3, d4] }
  | _ => none }
def FnEveryOneMorePutInWrongFalsely : Prop := fnEveryOneMorePutInRow.holds Try.pinned (OpenSpec.ofChange fnEveryOneMorePutInWrong)

/-- 'zzlaws_internal_nfa_b1.FnRegionHoldsSplitAtAnyCopy': WHATEVER THE INPUT: true; the input reads as it did. -/
def fnRegionHoldsSplitAtAnyCopySpec : ChangeSpec := { name := "fnRegionHoldsSplitAtAnyCopy", fn := fun _ => fun
  | [d1, d2, d3, d4, d5, d6, d7] => { results := [.lit (.bool true)], args := [d1, d2, d3, d4, d5, d6, d7] }
  | _ => none }
def fnRegionHoldsSplitAtAnyCopyRow : OpenClaim := { program := "qxb6613362a", sum := "5d5a494fab8434493d5f87eab6beca520162bf0c00d3ad302be79faaeace122b", func := "example.com/trawl/trawl/zzlaws_internal_nfa_b1.FnRegionHoldsSplitAtAnyCopy", spec := "fnRegionHoldsSplitAtAnyCopy", apart := false }
def FnRegionHoldsSplitAtAnyCopySaid : Prop := fnRegionHoldsSplitAtAnyCopyRow.holds Try.pinned (OpenSpec.ofChange fnRegionHoldsSplitAtAnyCopySpec)

/-- ITS FALSE NEIGHBOUR: 'it returns false'. Refute it at one input. -/
def fnRegionHoldsSplitAtAnyCopyWrong : ChangeSpec := { name := "fnRegionHoldsSplitAtAnyCopy", fn := fun _ => fun
  | [d1, d2, d3, d4, d5, d6, d7] => { results := [.lit (.bool false)], args := [d1, d2, d3, d4, d5, d6, d7] }
  | _ => none }
def FnRegionHoldsSplitAtAnyCopyWrongFalsely : Prop := fnRegionHoldsSplitAtAnyCopyRow.holds Try.pinned (OpenSpec.ofChange fnRegionHoldsSplitAtAnyCopyWrong)

/-- 'zzlaws_internal_nfa_b1.FnRegionHoldsShifted': WHATEVER THE INPUT: true; the input reads as it did. -/
def fnRegionHoldsShiftedSpec : ChangeSpec := { name := "fnRegionHoldsShifted", fn := fun _ => fun
  | [d1, d2, d3, d4, d5, d6, d7] => { results := [.lit (.bool true)], args := [d1, d2, d3, d4, d5, d6, d7] }
  | _ => none }
def fnRegionHoldsShiftedRow : OpenClaim := { program := "qxb6613362a", sum := "5d5a494fab8434493d5f87eab6beca520162bf0c00d3ad302be79faaeace122b", func := "example.com/trawl/trawl/zzlaws_internal_nfa_b1.FnRegionHoldsShifted", spec := "fnRegionHoldsShifted", apart := false }
def FnRegionHoldsShiftedSaid : Prop := fnRegionHoldsShiftedRow.holds Try.pinned (OpenSpec.ofChange fnRegionHoldsShiftedSpec)

/-- ITS FALSE NEIGHBOUR: 'it returns false'. Refute it at one input. -/
def fnRegionHoldsShiftedWrong : ChangeSpec := { name := "fnRegionHoldsShifted", fn := fun _ => fun
  | [d1, d2, d3, d4, d5, d6, d7] => { results := [.lit (.bool false)], args := [d1, d2, d3, d4, d5, d6, d7] }
  | _ => none }
def FnRegionHoldsShiftedWrongFalsely : Prop := fnRegionHoldsShiftedRow.holds Try.pinned (OpenSpec.ofChange fnRegionHoldsShiftedWrong)

/-- 'zzlaws_internal_nfa_b1.FnMachineReportInStepsAsAtEnd': WHATEVER THE INPUT: true; the input reads as it did. -/
def fnMachineReportInStepsAsAtEndSpec : ChangeSpec := { name := "fnMachineReportInStepsAsAtEnd", fn := fun _ => fun
  | [d1, d2, d3, d4, d5] => { results := [.lit (.bool true)], args := [d1, d2, d3, d4, d5] }
  | _ => none }
def fnMachineReportInStepsAsAtEndRow : OpenClaim := { program := "qxb6613362a", sum := "5d5a494fab8434493d5f87eab6beca520162bf0c00d3ad302be79faaeace122b", func := "example.com/trawl/trawl/zzlaws_internal_nfa_b1.FnMachineReportInStepsAsAtEnd", spec := "fnMachineReportInStepsAsAtEnd", apart := false }
def FnMachineReportInStepsAsAtEndSaid : Prop := fnMachineReportInStepsAsAtEndRow.holds Try.pinned (OpenSpec.ofChange fnMachineReportInStepsAsAtEndSpec)

/-- ITS FALSE NEIGHBOUR: 'it returns false'. Refute it at one input. -/
def fnMachineReportInStepsAsAtEndWrong : ChangeSpec := { name := "fnMachineReportInStepsAsAtEnd", fn := fun _ => fun
  | [d1, d2, d3, d4, d5] => { results := [.lit (.bool false)], args := [d1, d2, d3, d4, d5] }
  | _ => none }
def FnMachineReportInStepsAsAtEndWrongFalsely : Prop := fnMachineReportInStepsAsAtEndRow.holds Try.pinned (OpenSpec.ofChange fnMachineReportInStepsAsAtEndWrong)

end Rows
end Go.Proofs.Qxb6613362a
