/-
  No cell of these rows narrows 'for every input' (looked for: loops, veiled, ifaces, maps, wideKeys, modest, calm, conditions, laid).
  DERIVED. THE GIVEN ROWS OF THIS SEAT. 7 by the template 'for every input the law returns true; each argument reads behind the call as it read before'; 0 by the template 'total and deterministic' (their statements: Qxb6601186aTotals.lean).
  GIVEN WITH THE SEED: the statements are not yours to turn. If you find one false, say at which input.
  Laid BY PROGRAM, IN A SANDBOX (cutbox-rows.mjs): the forced cells as the released guide's own fill.sh prints them over the translation 41b95ab67c48df1e… (all of the seat's roots in one cut). By AI agents, Wed Nov 11 2026. No macro, syntax, notation, axiom, sorry.
-/
import Derived.Test.Qxb6601186aChecked
import GoSem.Claim
import GoSem.ClaimJoined
import GoSem.ClaimMapViews
import Derived.JoinedTies
import Derived.KernelRfl
namespace Go.Proofs.Qxb6601186a
/- THE CELL 'sum', in the pinned program and in every row, IS THE sha256 OF THE DUMP (.gsa) THAT Qxb6601186aProg.lean LOADS. Nothing in Lean hashes anything: it is a label: what it is worth is what the hold of that sum in a sandbox is worth. -/
noncomputable def Try.pinned : Pinned := { name := "qxb6601186a", sum := "41b95ab67c48df1e61931b6ca2b3814a92a7b16750583645c74a0135a7f1d2f4", checked := Try.checked }
namespace Rows
def none {H : Type} : Left H := { results := [], args := [] }

/-- 'zzlaws_internal_doc_b1.FnValueLenMatchesJSONGrammar': WHATEVER THE INPUT: true; the input reads as it did. -/
def fnValueLenMatchesJSONGrammarSpec : ChangeSpec := { name := "fnValueLenMatchesJSONGrammar", fn := fun _ => fun
  | [d] => { results := [.lit (.bool true)], args := [d] }
  | _ => none }
def fnValueLenMatchesJSONGrammarRow : OpenClaim := { program := "qxb6601186a", sum := "41b95ab67c48df1e61931b6ca2b3814a92a7b16750583645c74a0135a7f1d2f4", func := "example.com/quorumlog/quorumlog/zzlaws_internal_doc_b1.FnValueLenMatchesJSONGrammar", spec := "fnValueLenMatchesJSONGrammar", recurses := true, apart := false }
def FnValueLenMatchesJSONGrammarSaid : Prop := fnValueLenMatchesJSONGrammarRow.holds Try.pinned (OpenSpec.ofChange fnValueLenMatchesJSONGrammarSpec)

/-- ITS FALSE NEIGHBOUR: 'it returns false'. Refute it at one input. -/
def fnValueLenMatchesJSONGrammarWrong : ChangeSpec := { name := "fnValueLenMatchesJSONGrammar", fn := fun _ => fun
  | [d] => { results := [.lit (.bool false)], args := [d] }
  | _ => none }
def FnValueLenMatchesJSONGrammarWrongFalsely : Prop := fnValueLenMatchesJSONGrammarRow.holds Try.pinned (OpenSpec.ofChange fnValueLenMatchesJSONGrammarWrong)

/-- 'zzlaws_internal_doc_b1.FnValueLenIgnoresWhatFollows': WHATEVER THE INPUT: true; the input reads as it did. -/
def fnValueLenIgnoresWhatFollowsSpec : ChangeSpec := { name := "fnValueLenIgnoresWhatFollows", fn := fun _ => fun
  | [d1, d2] => { results := [.lit (.bool true)], args := [d1, d2] }
  | _ => none }
def fnValueLenIgnoresWhatFollowsRow : OpenClaim := { program := "qxb6601186a", sum := "41b95ab67c48df1e61931b6ca2b3814a92a7b16750583645c74a0135a7f1d2f4", func := "example.com/quorumlog/quorumlog/zzlaws_internal_doc_b1.FnValueLenIgnoresWhatFollows", spec := "fnValueLenIgnoresWhatFollows", recurses := true, apart := false }
def FnValueLenIgnoresWhatFollowsSaid : Prop := fnValueLenIgnoresWhatFollowsRow.holds Try.pinned (OpenSpec.ofChange fnValueLenIgnoresWhatFollowsSpec)

/-- ITS FALSE NEIGHBOUR: 'it returns false'. Refute it at one input. -/
def fnValueLenIgnoresWhatFollowsWrong : ChangeSpec := { name := "fnValueLenIgnoresWhatFollows", fn := fun _ => fun
  | [d1, d2] => { results := [.lit (.bool false)], args := [d1, d2] }
  | _ => none }
def FnValueLenIgnoresWhatFollowsWrongFalsely : Prop := fnValueLenIgnoresWhatFollowsRow.holds Try.pinned (OpenSpec.ofChange fnValueLenIgnoresWhatFollowsWrong)

/-- 'zzlaws_internal_doc_b1.FnValueLenWalksObjectMembers': WHATEVER THE INPUT: true; the input reads as it did. -/
def fnValueLenWalksObjectMembersSpec : ChangeSpec := { name := "fnValueLenWalksObjectMembers", fn := fun _ => fun
  | [d] => { results := [.lit (.bool true)], args := [d] }
  | _ => none }
def fnValueLenWalksObjectMembersRow : OpenClaim := { program := "qxb6601186a", sum := "41b95ab67c48df1e61931b6ca2b3814a92a7b16750583645c74a0135a7f1d2f4", func := "example.com/quorumlog/quorumlog/zzlaws_internal_doc_b1.FnValueLenWalksObjectMembers", spec := "fnValueLenWalksObjectMembers", recurses := true, apart := false }
def FnValueLenWalksObjectMembersSaid : Prop := fnValueLenWalksObjectMembersRow.holds Try.pinned (OpenSpec.ofChange fnValueLenWalksObjectMembersSpec)

/-- ITS FALSE NEIGHBOUR: 'it returns false'. Refute it at one input. -/
def fnValueLenWalksObjectMembersWrong : ChangeSpec := { name := "fnValueLenWalksObjectMembers", fn := fun _ => fun
  | [d] => { results := [.lit (.bool false)], args := [d] }
  | _ => none }
def FnValueLenWalksObjectMembersWrongFalsely : Prop := fnValueLenWalksObjectMembersRow.holds Try.pinned (OpenSpec.ofChange fnValueLenWalksObjectMembersWrong)

/-- 'zzlaws_internal_doc_b1.FnHexEscapeMatchesDigitTable': WHATEVER THE INPUT: true; the input reads as it did. -/
def fnHexEscapeMatchesDigitTableSpec : ChangeSpec := { name := "fnHexEscapeMatchesDigitTable", fn := fun _ => fun
  | [d] => { results := [.lit (.bool true)], args := [d] }
  | _ => none }
def fnHexEscapeMatchesDigitTableRow : OpenClaim := { program := "qxb6601186a", sum := "41b95ab67c48df1e61931b6ca2b3814a92a7b16750583645c74a0135a7f1d2f4", func := "example.com/quorumlog/quorumlog/zzlaws_internal_doc_b1.FnHexEscapeMatchesDigitTable", spec := "fnHexEscapeMatchesDigitTable", apart := false }
def FnHexEscapeMatchesDigitTableSaid : Prop := fnHexEscapeMatchesDigitTableRow.holds Try.pinned (OpenSpec.ofChange fnHexEscapeMatchesDigitTableSpec)

/-- ITS FALSE NEIGHBOUR: 'it returns false'. Refute it at one input. -/
def fnHexEscapeMatchesDigitTableWrong : ChangeSpec := { name := "fnHexEscapeMatchesDigitTable", fn := fun _ => fun
  | [d] => { results := [.lit (.bool false)], args := [d] }
  | _ => none }
def FnHexEscapeMatchesDigitTableWrongFalsely : Prop := fnHexEscapeMatchesDigitTableRow.holds Try.pinned (OpenSpec.ofChange fnHexEscapeMatchesDigitTableWrong)

/-- 'zzlaws_internal_doc_b1.FnHexEscapeReadsBackEveryCodeUnit': WHATEVER THE INPUT: true; the input reads as it did. -/
def fnHexEscapeReadsBackEveryCodeUnitSpec : ChangeSpec := { name := "fnHexEscapeReadsBackEveryCodeUnit", fn := fun _ => fun
  | [d1, d2, d3] => { results := [.lit (.bool true)], args := [d1, d2, d3] }
  | _ => none }
def fnHexEscapeReadsBackEveryCodeUnitRow : OpenClaim := { program := "qxb6601186a", sum := "41b95ab67c48df1e61931b6ca2b3814a92a7b16750583645c74a0135a7f1d2f4", func := "example.com/quorumlog/quorumlog/zzlaws_internal_doc_b1.FnHexEscapeReadsBackEveryCodeUnit", spec := "fnHexEscapeReadsBackEveryCodeUnit", apart := false }
def FnHexEscapeReadsBackEveryCodeUnitSaid : Prop := fnHexEscapeReadsBackEveryCodeUnitRow.holds Try.pinned (OpenSpec.ofChange fnHexEscapeReadsBackEveryCodeUnitSpec)

/-- ITS FALSE NEIGHBOUR: 'it returns false'. Refute it at one input. -/
def fnHexEscapeReadsBackEveryCodeUnitWrong : ChangeSpec := { name := "fnHexEscapeReadsBackEveryCodeUnit", fn := fun _ => fun
  | [d1, d2, d3] => { results := [.lit (.bool false)], args := [d1, d2, d3] }
  | _ => none }
def FnHexEscapeReadsBackEveryCodeUnitWrongFalsely : Prop := fnHexEscapeReadsBackEveryCodeUnitRow.holds Try.pinned (OpenSpec.ofChange fnHexEscapeReadsBackEveryCodeUnitWrong)

/-- 'zzlaws_internal_doc_b1.FnStringBytesMatchesFieldModel': WHATEVER THE INPUT: true; the input reads as it did. -/
def fnStringBytesMatchesFieldModelSpec : ChangeSpec := { name := "fnStringBytesMatchesFieldModel", fn := fun _ => fun
  | [d1, d2, d3, d4] => { results := [.lit (.bool true)], args := [d1, d2, d3, d4] }
  | _ => none }
def fnStringBytesMatchesFieldModelRow : OpenClaim := { program := "qxb6601186a", sum := "41b95ab67c48df1e61931b6ca2b3814a92a7b16750583645c74a0135a7f1d2f4", func := "example.com/quorumlog/quorumlog/zzlaws_internal_doc_b1.FnStringBytesMatchesFieldModel", spec := "fnStringBytesMatchesFieldModel", apart := false }
def FnStringBytesMatchesFieldModelSaid : Prop := fnStringBytesMatchesFieldModelRow.holds Try.pinned (OpenSpec.ofChange fnStringBytesMatchesFieldModelSpec)

/-- ITS FALSE NEIGHBOUR: 'it returns false'. Refute it at one input. -/
def fnStringBytesMatchesFieldModelWrong : ChangeSpec := { name := "fnStringBytesMatchesFieldModel", fn := fun _ => fun
  | [d1, d2, d3, d4] => { results := [.lit (.bool false)], args := [d1, d2, d3, d4] }
  | _ => none }
def FnStringBytesMatchesFieldModelWrongFalsely : Prop := fnStringBytesMatchesFieldModelRow.holds Try.pinned (OpenSpec.ofChange fnStringBytesMatchesFieldModelWrong)

/-- 'zzlaws_internal_doc_b1.FnStringBytesReadsBackTwoWrittenFields': WHATEVER THE INPUT: true; the input reads as it did. -/
def fnStringBytesReadsBackTwoWrittenFieldsSpec : ChangeSpec := { name := "fnStringBytesReadsBackTwoWrittenFields", fn := fun _ => fun
  | [d1, d2, d3, d4, d5] => { results := [.lit (.bool true)], args := [d1, d2, d3, d4, d5] }
  | _ => none }
def fnStringBytesReadsBackTwoWrittenFieldsRow : OpenClaim := { program := "qxb6601186a", sum := "41b95ab67c48df1e61931b6ca2b3814a92a7b16750583645c74a0135a7f1d2f4", func := "example.com/quorumlog/quorumlog/zzlaws_internal_doc_b1.FnStringBytesReadsBackTwoWrittenFields", spec := "fnStringBytesReadsBackTwoWrittenFields", apart := false }
def FnStringBytesReadsBackTwoWrittenFieldsSaid : Prop := fnStringBytesReadsBackTwoWrittenFieldsRow.holds Try.pinned (OpenSpec.ofChange fnStringBytesReadsBackTwoWrittenFieldsSpec)

/-- ITS FALSE NEIGHBOUR: 'it returns false'. Refute it at one input. -/
def fnStringBytesReadsBackTwoWrittenFieldsWrong : ChangeSpec := { name := "fnStringBytesReadsBackTwoWrittenFields", fn := fun _ => fun
  | [d1, d2, d3, d4, d5] => { results := [.lit (.bool false)], args := [d1, d2, d3, d4, d5] }
  | _ => none }
def FnStringBytesReadsBackTwoWrittenFieldsWrongFalsely : Prop := fnStringBytesReadsBackTwoWrittenFieldsRow.holds Try.pinned (OpenSpec.ofChange fnStringBytesReadsBackTwoWrittenFieldsWrong)

end Rows
end Go.Proofs.Qxb6601186a
