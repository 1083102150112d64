/-
  No cell of these rows narrows 'for every input' (looked for: loops, veiled, ifaces, maps, wideKeys, modest, calm, conditions, laid).
  DERIVED. THE GIVEN ROWS OF THIS SEAT. 4 by the template 'for every input the law returns true; each argument reads behind the call as it read before'; 0 by the template 'total and deterministic' (their statements: Qxb6601261aTotals.lean).
  GIVEN WITH THE SEED: the statements are not yours to turn. If you find one false, say at which input.
  Laid BY PROGRAM, IN A SANDBOX (cutbox-rows.mjs): the forced cells as the released guide's own fill.sh prints them over the translation 07ad52ecaf87696e… (all of the seat's roots in one cut). By AI agents, Wed Nov 11 2026. No macro, syntax, notation, axiom, sorry.
-/
import Derived.Test.Qxb6601261aChecked
import GoSem.Claim
import GoSem.ClaimJoined
import GoSem.ClaimMapViews
import Derived.JoinedTies
import Derived.KernelRfl
namespace Go.Proofs.Qxb6601261a
/- THE CELL 'sum', in the pinned program and in every row, IS THE sha256 OF THE DUMP (.gsa) THAT Qxb6601261aProg.lean LOADS. Nothing in Lean hashes anything: it is a label: what it is worth is what the hold of that sum in a sandbox is worth. -/
noncomputable def Try.pinned : Pinned := { name := "qxb6601261a", sum := "07ad52ecaf87696ef0ccc31b0f410504f3475c41921f8f48960cddc12b0b6e6e", checked := Try.checked }
namespace Rows
def none {H : Type} : Left H := { results := [], args := [] }

/-- 'zzlaws_root_b1.FnGroupByIsExactGrouping': WHATEVER THE INPUT: true; the input reads as it did. -/
def fnGroupByIsExactGroupingSpec : ChangeSpec := { name := "fnGroupByIsExactGrouping", fn := fun _ => fun
  | [d1, d2] => { results := [.lit (.bool true)], args := [d1, d2] }
  | _ => none }
def fnGroupByIsExactGroupingRow : OpenClaim := { program := "qxb6601261a", sum := "07ad52ecaf87696ef0ccc31b0f410504f3475c41921f8f48960cddc12b0b6e6e", func := "example.com/visibility-by-org/visibility-by-org/zzlaws_root_b1.FnGroupByIsExactGrouping", spec := "fnGroupByIsExactGrouping", apart := false }
def FnGroupByIsExactGroupingSaid : Prop := fnGroupByIsExactGroupingRow.holds Try.pinned (OpenSpec.ofChange fnGroupByIsExactGroupingSpec)

/-- ITS FALSE NEIGHBOUR: 'it returns false'. Refute it at one input. -/
def fnGroupByIsExactGroupingWrong : ChangeSpec := { name := "fnGroupByIsExactGrouping", fn := fun _ => fun
  | [d1, d2] => { results := [.lit (.bool false)], args := [d1, d2] }
  | _ => none }
def FnGroupByIsExactGroupingWrongFalsely : Prop := fnGroupByIsExactGroupingRow.holds Try.pinned (OpenSpec.ofChange fnGroupByIsExactGroupingWrong)

/-- 'zzlaws_root_b1.FnGroupByAppendOneKey': WHATEVER THE INPUT: true; the input reads as it did. -/
def fnGroupByAppendOneKeySpec : ChangeSpec := { name := "fnGroupByAppendOneKey", fn := fun _ => fun
  | [d1, d2, d3] => { results := [.lit (.bool true)], args := [d1, d2, d3] }
  | _ => none }
def fnGroupByAppendOneKeyRow : OpenClaim := { program := "qxb6601261a", sum := "07ad52ecaf87696ef0ccc31b0f410504f3475c41921f8f48960cddc12b0b6e6e", func := "example.com/visibility-by-org/visibility-by-org/zzlaws_root_b1.FnGroupByAppendOneKey", spec := "fnGroupByAppendOneKey", apart := false }
def FnGroupByAppendOneKeySaid : Prop := fnGroupByAppendOneKeyRow.holds Try.pinned (OpenSpec.ofChange fnGroupByAppendOneKeySpec)

/-- ITS FALSE NEIGHBOUR: 'it returns false'. Refute it at one input. -/
def fnGroupByAppendOneKeyWrong : ChangeSpec := { name := "fnGroupByAppendOneKey", fn := fun _ => fun
  | [d1, d2, d3] => { results := [.lit (.bool false)], args := [d1, d2, d3] }
  | _ => none }
def FnGroupByAppendOneKeyWrongFalsely : Prop := fnGroupByAppendOneKeyRow.holds Try.pinned (OpenSpec.ofChange fnGroupByAppendOneKeyWrong)

/-- 'zzlaws_root_b1.FnFirstInCycleIsEntryOfFirstCycleChain': WHATEVER THE INPUT: true; the input reads as it did. -/
def fnFirstInCycleIsEntryOfFirstCycleChainSpec : ChangeSpec := { name := "fnFirstInCycleIsEntryOfFirstCycleChain", fn := fun _ => fun
  | [d] => { results := [.lit (.bool true)], args := [d] }
  | _ => none }
def fnFirstInCycleIsEntryOfFirstCycleChainRow : OpenClaim := { program := "qxb6601261a", sum := "07ad52ecaf87696ef0ccc31b0f410504f3475c41921f8f48960cddc12b0b6e6e", func := "example.com/visibility-by-org/visibility-by-org/zzlaws_root_b1.FnFirstInCycleIsEntryOfFirstCycleChain", spec := "fnFirstInCycleIsEntryOfFirstCycleChain", apart := false }
def FnFirstInCycleIsEntryOfFirstCycleChainSaid : Prop := fnFirstInCycleIsEntryOfFirstCycleChainRow.holds Try.pinned (OpenSpec.ofChange fnFirstInCycleIsEntryOfFirstCycleChainSpec)

/-- ITS FALSE NEIGHBOUR: 'it returns false'. Refute it at one input. -/
def fnFirstInCycleIsEntryOfFirstCycleChainWrong : ChangeSpec := { name := "fnFirstInCycleIsEntryOfFirstCycleChain", fn := fun _ => fun
  | [d] => { results := [.lit (.bool false)], args := [d] }
  | _ => none }
def FnFirstInCycleIsEntryOfFirstCycleChainWrongFalsely : Prop := fnFirstInCycleIsEntryOfFirstCycleChainRow.holds Try.pinned (OpenSpec.ofChange fnFirstInCycleIsEntryOfFirstCycleChainWrong)

/-- 'zzlaws_root_b1.FnFirstInCycleCuttingEndsAtNoCycle': WHATEVER THE INPUT: true; the input reads as it did. -/
def fnFirstInCycleCuttingEndsAtNoCycleSpec : ChangeSpec := { name := "fnFirstInCycleCuttingEndsAtNoCycle", fn := fun _ => fun
  | [d] => { results := [.lit (.bool true)], args := [d] }
  | _ => none }
def fnFirstInCycleCuttingEndsAtNoCycleRow : OpenClaim := { program := "qxb6601261a", sum := "07ad52ecaf87696ef0ccc31b0f410504f3475c41921f8f48960cddc12b0b6e6e", func := "example.com/visibility-by-org/visibility-by-org/zzlaws_root_b1.FnFirstInCycleCuttingEndsAtNoCycle", spec := "fnFirstInCycleCuttingEndsAtNoCycle", apart := false }
def FnFirstInCycleCuttingEndsAtNoCycleSaid : Prop := fnFirstInCycleCuttingEndsAtNoCycleRow.holds Try.pinned (OpenSpec.ofChange fnFirstInCycleCuttingEndsAtNoCycleSpec)

/-- ITS FALSE NEIGHBOUR: 'it returns false'. Refute it at one input. -/
def fnFirstInCycleCuttingEndsAtNoCycleWrong : ChangeSpec := { name := "fnFirstInCycleCuttingEndsAtNoCycle", fn := fun _ => fun
  | [d] => { results := [.lit (.bool false)], args := [d] }
  | _ => none }
def FnFirstInCycleCuttingEndsAtNoCycleWrongFalsely : Prop := fnFirstInCycleCuttingEndsAtNoCycleRow.holds Try.pinned (OpenSpec.ofChange fnFirstInCycleCuttingEndsAtNoCycleWrong)

end Rows
end Go.Proofs.Qxb6601261a
