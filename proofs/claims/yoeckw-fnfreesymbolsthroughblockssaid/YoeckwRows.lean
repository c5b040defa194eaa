/-
  No cell of these rows narrows 'for every input' (looked for: loops, veiled, ifaces, maps, wideKeys, modest, calm, conditions, laid).
  DERIVED. THE GIVEN ROWS OF THIS SEAT. 7 by the template 'for every input the law returns true; each argument reads behind the call as it read before'; 0 by the template 'total and deterministic' (their statements: YoeckwTotals.lean).
  GIVEN WITH THE SEED: the statements are not yours to turn. If you find one false, say at which input.
  Laid BY PROGRAM, IN A SANDBOX (cutbox-rows.mjs): the forced cells as the released guide's own fill.sh prints them over the translation 9a43ad60e662715c… (all of the seat's roots in one cut). By AI agents, Wed Nov 11 2026. No macro, syntax, notation, axiom, sorry.
-/
import Derived.Test.YoeckwChecked
import GoSem.Claim
import GoSem.ClaimJoined
import GoSem.ClaimMapViews
import Derived.JoinedTies
import Derived.KernelRfl
namespace Go.Proofs.Yoeckw
/- THE CELL 'sum', in the pinned program and in every row, IS THE sha256 OF THE DUMP (.gsa) THAT YoeckwProg.lean LOADS. Nothing in Lean hashes anything: it is a label: what it is worth is what the hold of that sum in a sandbox is worth. -/
noncomputable def Eckg.pinned : Pinned := { name := "yoeckw", sum := "9a43ad60e662715c9ad52ee66a691981eb3e25b7f774098f177253598837068f", checked := Eckg.checked }
namespace Rows
def none {H : Type} : Left H := { results := [], args := [] }

/-- 'zzlaws_root_b2.FnForkParentChain': WHATEVER THE INPUT: true; the input reads as it did. -/
def fnForkParentChainSpec : ChangeSpec := { name := "fnForkParentChain", fn := fun _ => fun
  | [d] => { results := [.lit (.bool true)], args := [d] }
  | _ => none }
def fnForkParentChainRow : OpenClaim := { program := "yoeckw", sum := "9a43ad60e662715c9ad52ee66a691981eb3e25b7f774098f177253598837068f", func := "github.com/d5/tengo/v2/zzlaws_root_b2.FnForkParentChain", spec := "fnForkParentChain", recurses := true, apart := false }
def FnForkParentChainSaid : Prop := fnForkParentChainRow.holds Eckg.pinned (OpenSpec.ofChange fnForkParentChainSpec)

/-- ITS FALSE NEIGHBOUR: 'it returns false'. Refute it at one input. -/
def fnForkParentChainWrong : ChangeSpec := { name := "fnForkParentChain", fn := fun _ => fun
  | [d] => { results := [.lit (.bool false)], args := [d] }
  | _ => none }
def FnForkParentChainWrongFalsely : Prop := fnForkParentChainRow.holds Eckg.pinned (OpenSpec.ofChange fnForkParentChainWrong)

/-- 'zzlaws_root_b2.FnParentSkipBlockDecidesScope': WHATEVER THE INPUT: true; the input reads as it did. -/
def fnParentSkipBlockDecidesScopeSpec : ChangeSpec := { name := "fnParentSkipBlockDecidesScope", fn := fun _ => fun
  | [d] => { results := [.lit (.bool true)], args := [d] }
  | _ => none }
def fnParentSkipBlockDecidesScopeRow : OpenClaim := { program := "yoeckw", sum := "9a43ad60e662715c9ad52ee66a691981eb3e25b7f774098f177253598837068f", func := "github.com/d5/tengo/v2/zzlaws_root_b2.FnParentSkipBlockDecidesScope", spec := "fnParentSkipBlockDecidesScope", recurses := true, apart := false }
def FnParentSkipBlockDecidesScopeSaid : Prop := fnParentSkipBlockDecidesScopeRow.holds Eckg.pinned (OpenSpec.ofChange fnParentSkipBlockDecidesScopeSpec)

/-- ITS FALSE NEIGHBOUR: 'it returns false'. Refute it at one input. -/
def fnParentSkipBlockDecidesScopeWrong : ChangeSpec := { name := "fnParentSkipBlockDecidesScope", fn := fun _ => fun
  | [d] => { results := [.lit (.bool false)], args := [d] }
  | _ => none }
def FnParentSkipBlockDecidesScopeWrongFalsely : Prop := fnParentSkipBlockDecidesScopeRow.holds Eckg.pinned (OpenSpec.ofChange fnParentSkipBlockDecidesScopeWrong)

/-- 'zzlaws_root_b2.FnForkFreshAndIndependent': WHATEVER THE INPUT: true; the input reads as it did. -/
def fnForkFreshAndIndependentSpec : ChangeSpec := { name := "fnForkFreshAndIndependent", fn := fun _ => fun
  | [d1, d2, d3] => { results := [.lit (.bool true)], args := [d1, d2, d3] }
  | _ => none }
def fnForkFreshAndIndependentRow : OpenClaim := { program := "yoeckw", sum := "9a43ad60e662715c9ad52ee66a691981eb3e25b7f774098f177253598837068f", func := "github.com/d5/tengo/v2/zzlaws_root_b2.FnForkFreshAndIndependent", spec := "fnForkFreshAndIndependent", recurses := true, apart := false }
def FnForkFreshAndIndependentSaid : Prop := fnForkFreshAndIndependentRow.holds Eckg.pinned (OpenSpec.ofChange fnForkFreshAndIndependentSpec)

/-- ITS FALSE NEIGHBOUR: 'it returns false'. Refute it at one input. -/
def fnForkFreshAndIndependentWrong : ChangeSpec := { name := "fnForkFreshAndIndependent", fn := fun _ => fun
  | [d1, d2, d3] => { results := [.lit (.bool false)], args := [d1, d2, d3] }
  | _ => none }
def FnForkFreshAndIndependentWrongFalsely : Prop := fnForkFreshAndIndependentRow.holds Eckg.pinned (OpenSpec.ofChange fnForkFreshAndIndependentWrong)

/-- 'zzlaws_root_b2.FnMaxSymbolsLocalPeak': WHATEVER THE INPUT: true; the input reads as it did. -/
def fnMaxSymbolsLocalPeakSpec : ChangeSpec := { name := "fnMaxSymbolsLocalPeak", fn := fun _ => fun
  | [d] => { results := [.lit (.bool true)], args := [d] }
  | _ => none }
def fnMaxSymbolsLocalPeakRow : OpenClaim := { program := "yoeckw", sum := "9a43ad60e662715c9ad52ee66a691981eb3e25b7f774098f177253598837068f", func := "github.com/d5/tengo/v2/zzlaws_root_b2.FnMaxSymbolsLocalPeak", spec := "fnMaxSymbolsLocalPeak", recurses := true, apart := false }
def FnMaxSymbolsLocalPeakSaid : Prop := fnMaxSymbolsLocalPeakRow.holds Eckg.pinned (OpenSpec.ofChange fnMaxSymbolsLocalPeakSpec)

/-- ITS FALSE NEIGHBOUR: 'it returns false'. Refute it at one input. -/
def fnMaxSymbolsLocalPeakWrong : ChangeSpec := { name := "fnMaxSymbolsLocalPeak", fn := fun _ => fun
  | [d] => { results := [.lit (.bool false)], args := [d] }
  | _ => none }
def FnMaxSymbolsLocalPeakWrongFalsely : Prop := fnMaxSymbolsLocalPeakRow.holds Eckg.pinned (OpenSpec.ofChange fnMaxSymbolsLocalPeakWrong)

/-- 'zzlaws_root_b2.FnMaxSymbolsGlobalCount': WHATEVER THE INPUT: true; the input reads as it did. -/
def fnMaxSymbolsGlobalCountSpec : ChangeSpec := { name := "fnMaxSymbolsGlobalCount", fn := fun _ => fun
  | [d] => { results := [.lit (.bool true)], args := [d] }
  | _ => none }
def fnMaxSymbolsGlobalCountRow : OpenClaim := { program := "yoeckw", sum := "9a43ad60e662715c9ad52ee66a691981eb3e25b7f774098f177253598837068f", func := "github.com/d5/tengo/v2/zzlaws_root_b2.FnMaxSymbolsGlobalCount", spec := "fnMaxSymbolsGlobalCount", recurses := true, apart := false }
def FnMaxSymbolsGlobalCountSaid : Prop := fnMaxSymbolsGlobalCountRow.holds Eckg.pinned (OpenSpec.ofChange fnMaxSymbolsGlobalCountSpec)

/-- ITS FALSE NEIGHBOUR: 'it returns false'. Refute it at one input. -/
def fnMaxSymbolsGlobalCountWrong : ChangeSpec := { name := "fnMaxSymbolsGlobalCount", fn := fun _ => fun
  | [d] => { results := [.lit (.bool false)], args := [d] }
  | _ => none }
def FnMaxSymbolsGlobalCountWrongFalsely : Prop := fnMaxSymbolsGlobalCountRow.holds Eckg.pinned (OpenSpec.ofChange fnMaxSymbolsGlobalCountWrong)

/-- 'zzlaws_root_b2.FnFreeSymbolsCaptureOrder': WHATEVER THE INPUT: true; the input reads as it did. -/
def fnFreeSymbolsCaptureOrderSpec : ChangeSpec := { name := "fnFreeSymbolsCaptureOrder", fn := fun _ => fun
  | [d1, d2, d3] => { results := [.lit (.bool true)], args := [d1, d2, d3] }
  | _ => none }
def fnFreeSymbolsCaptureOrderRow : OpenClaim := { program := "yoeckw", sum := "9a43ad60e662715c9ad52ee66a691981eb3e25b7f774098f177253598837068f", func := "github.com/d5/tengo/v2/zzlaws_root_b2.FnFreeSymbolsCaptureOrder", spec := "fnFreeSymbolsCaptureOrder", recurses := true, apart := false }
def FnFreeSymbolsCaptureOrderSaid : Prop := fnFreeSymbolsCaptureOrderRow.holds Eckg.pinned (OpenSpec.ofChange fnFreeSymbolsCaptureOrderSpec)

/-- ITS FALSE NEIGHBOUR: 'it returns false'. Refute it at one input. -/
def fnFreeSymbolsCaptureOrderWrong : ChangeSpec := { name := "fnFreeSymbolsCaptureOrder", fn := fun _ => fun
  | [d1, d2, d3] => { results := [.lit (.bool false)], args := [d1, d2, d3] }
  | _ => none }
def FnFreeSymbolsCaptureOrderWrongFalsely : Prop := fnFreeSymbolsCaptureOrderRow.holds Eckg.pinned (OpenSpec.ofChange fnFreeSymbolsCaptureOrderWrong)

/-- 'zzlaws_root_b2.FnFreeSymbolsThroughBlocks': WHATEVER THE INPUT: true; the input reads as it did. -/
def fnFreeSymbolsThroughBlocksSpec : ChangeSpec := { name := "fnFreeSymbolsThroughBlocks", fn := fun _ => fun
  | [d1, d2, d3, d4] => { results := [.lit (.bool true)], args := [d1, d2, d3, d4] }
  | _ => none }
def fnFreeSymbolsThroughBlocksRow : OpenClaim := { program := "yoeckw", sum := "9a43ad60e662715c9ad52ee66a691981eb3e25b7f774098f177253598837068f", func := "github.com/d5/tengo/v2/zzlaws_root_b2.FnFreeSymbolsThroughBlocks", spec := "fnFreeSymbolsThroughBlocks", recurses := true, apart := false }
def FnFreeSymbolsThroughBlocksSaid : Prop := fnFreeSymbolsThroughBlocksRow.holds Eckg.pinned (OpenSpec.ofChange fnFreeSymbolsThroughBlocksSpec)

/-- ITS FALSE NEIGHBOUR: 'it returns false'. Refute it at one input. -/
def fnFreeSymbolsThroughBlocksWrong : ChangeSpec := { name := "fnFreeSymbolsThroughBlocks", fn := fun _ => fun
  | [d1, d2, d3, d4] => { results := [.lit (.bool false)], args := [d1, d2, d3, d4] }
  | _ => none }
def FnFreeSymbolsThroughBlocksWrongFalsely : Prop := fnFreeSymbolsThroughBlocksRow.holds Eckg.pinned (OpenSpec.ofChange fnFreeSymbolsThroughBlocksWrong)

end Rows
end Go.Proofs.Yoeckw
