/-
  No cell of these rows narrows 'for every input' (looked for: loops, veiled, ifaces, maps, wideKeys, modest, calm, conditions, laid).
  DERIVED. THE GIVEN ROWS OF THIS SEAT. 5 by the template 'for every input the law returns true; each argument reads behind the call as it read before'; 0 by the template 'total and deterministic' (their statements: Qxb6602899aTotals.lean).
  GIVEN WITH THE SEED: the statements are not yours to turn. If you find one false, say at which input.
  Laid BY PROGRAM, IN A SANDBOX (cutbox-rows.mjs): the forced cells as the released guide's own fill.sh prints them over the translation ab7b50d7982feded… (all of the seat's roots in one cut). By AI agents, Wed Nov 11 2026. No macro, syntax, notation, axiom, sorry.
-/
import Derived.Test.Qxb6602899aChecked
import GoSem.Claim
import GoSem.ClaimJoined
import GoSem.ClaimMapViews
import Derived.JoinedTies
import Derived.KernelRfl
namespace Go.Proofs.Qxb6602899a
/- THE CELL 'sum', in the pinned program and in every row, IS THE sha256 OF THE DUMP (.gsa) THAT Qxb6602899aProg.lean LOADS. Nothing in Lean hashes anything: it is a label: what it is worth is what the hold of that sum in a sandbox is worth. -/
noncomputable def Try.pinned : Pinned := { name := "qxb6602899a", sum := "ab7b50d7982feded1ec3306b47814313636fa52426aded2d2e3a5dc91d5dcc4a", checked := Try.checked }
namespace Rows
def none {H : Type} : Left H := { results := [], args := [] }

/-- 'zzlaws_root_b1.FnShareEvensTheKinds': WHATEVER THE INPUT: true; the input reads as it did. -/
def fnShareEvensTheKindsSpec : ChangeSpec := { name := "fnShareEvensTheKinds", fn := fun _ => fun
  | [d1, d2, d3, d4] => { results := [.lit (.bool true)], args := [d1, d2, d3, d4] }
  | _ => none }
def fnShareEvensTheKindsRow : OpenClaim := { program := "qxb6602899a", sum := "ab7b50d7982feded1ec3306b47814313636fa52426aded2d2e3a5dc91d5dcc4a", func := "example.com/ikkan/ikkan/zzlaws_root_b1.FnShareEvensTheKinds", spec := "fnShareEvensTheKinds", apart := false }
def FnShareEvensTheKindsSaid : Prop := fnShareEvensTheKindsRow.holds Try.pinned (OpenSpec.ofChange fnShareEvensTheKindsSpec)

/-- ITS FALSE NEIGHBOUR: 'it returns false'. Refute it at one input. -/
def fnShareEvensTheKindsWrong : ChangeSpec := { name := "fnShareEvensTheKinds", fn := fun _ => fun
  | [d1, d2, d3, d4] => { results := [.lit (.bool false)], args := [d1, d2, d3, d4] }
  | _ => none }
def FnShareEvensTheKindsWrongFalsely : Prop := fnShareEvensTheKindsRow.holds Try.pinned (OpenSpec.ofChange fnShareEvensTheKindsWrong)

/-- 'zzlaws_root_b1.FnShareAgreesWithSlotBySlot': WHATEVER THE INPUT: true; the input reads as it did. -/
def fnShareAgreesWithSlotBySlotSpec : ChangeSpec := { name := "fnShareAgreesWithSlotBySlot", fn := fun _ => fun
  | [d1, d2, d3, d4] => { results := [.lit (.bool true)], args := [d1, d2, d3, d4] }
  | _ => none }
def fnShareAgreesWithSlotBySlotRow : OpenClaim := { program := "qxb6602899a", sum := "ab7b50d7982feded1ec3306b47814313636fa52426aded2d2e3a5dc91d5dcc4a", func := "example.com/ikkan/ikkan/zzlaws_root_b1.FnShareAgreesWithSlotBySlot", spec := "fnShareAgreesWithSlotBySlot", apart := false }
def FnShareAgreesWithSlotBySlotSaid : Prop := fnShareAgreesWithSlotBySlotRow.holds Try.pinned (OpenSpec.ofChange fnShareAgreesWithSlotBySlotSpec)

/-- ITS FALSE NEIGHBOUR: 'it returns false'. Refute it at one input. -/
def fnShareAgreesWithSlotBySlotWrong : ChangeSpec := { name := "fnShareAgreesWithSlotBySlot", fn := fun _ => fun
  | [d1, d2, d3, d4] => { results := [.lit (.bool false)], args := [d1, d2, d3, d4] }
  | _ => none }
def FnShareAgreesWithSlotBySlotWrongFalsely : Prop := fnShareAgreesWithSlotBySlotRow.holds Try.pinned (OpenSpec.ofChange fnShareAgreesWithSlotBySlotWrong)

/-- 'zzlaws_root_b1.FnShareStepsByAtMostOne': WHATEVER THE INPUT: true; the input reads as it did. -/
def fnShareStepsByAtMostOneSpec : ChangeSpec := { name := "fnShareStepsByAtMostOne", fn := fun _ => fun
  | [d1, d2, d3, d4] => { results := [.lit (.bool true)], args := [d1, d2, d3, d4] }
  | _ => none }
def fnShareStepsByAtMostOneRow : OpenClaim := { program := "qxb6602899a", sum := "ab7b50d7982feded1ec3306b47814313636fa52426aded2d2e3a5dc91d5dcc4a", func := "example.com/ikkan/ikkan/zzlaws_root_b1.FnShareStepsByAtMostOne", spec := "fnShareStepsByAtMostOne", apart := false }
def FnShareStepsByAtMostOneSaid : Prop := fnShareStepsByAtMostOneRow.holds Try.pinned (OpenSpec.ofChange fnShareStepsByAtMostOneSpec)

/-- ITS FALSE NEIGHBOUR: 'it returns false'. Refute it at one input. -/
def fnShareStepsByAtMostOneWrong : ChangeSpec := { name := "fnShareStepsByAtMostOne", fn := fun _ => fun
  | [d1, d2, d3, d4] => { results := [.lit (.bool false)], args := [d1, d2, d3, d4] }
  | _ => none }
def FnShareStepsByAtMostOneWrongFalsely : Prop := fnShareStepsByAtMostOneRow.holds Try.pinned (OpenSpec.ofChange fnShareStepsByAtMostOneWrong)

/-- 'zzlaws_root_b1.FnStepRecordsIsOneParenthesisedWhole': WHATEVER THE INPUT: true; the input reads as it did. -/
def fnStepRecordsIsOneParenthesisedWholeSpec : ChangeSpec := { name := "fnStepRecordsIsOneParenthesisedWhole", fn := fun _ => fun
  | [d] => { results := [.lit (.bool true)], args := [d] }
  | _ => none }
def fnStepRecordsIsOneParenthesisedWholeRow : OpenClaim := { program := "qxb6602899a", sum := "ab7b50d7982feded1ec3306b47814313636fa52426aded2d2e3a5dc91d5dcc4a", func := "example.com/ikkan/ikkan/zzlaws_root_b1.FnStepRecordsIsOneParenthesisedWhole", spec := "fnStepRecordsIsOneParenthesisedWhole", apart := false }
def FnStepRecordsIsOneParenthesisedWholeSaid : Prop := fnStepRecordsIsOneParenthesisedWholeRow.holds Try.pinned (OpenSpec.ofChange fnStepRecordsIsOneParenthesisedWholeSpec)

/-- ITS FALSE NEIGHBOUR: 'it returns false'. Refute it at one input. -/
def fnStepRecordsIsOneParenthesisedWholeWrong : ChangeSpec := { name := "fnStepRecordsIsOneParenthesisedWhole", fn := fun _ => fun
  | [d] => { results := [.lit (.bool false)], args := [d] }
  | _ => none }
def FnStepRecordsIsOneParenthesisedWholeWrongFalsely : Prop := fnStepRecordsIsOneParenthesisedWholeRow.holds Try.pinned (OpenSpec.ofChange fnStepRecordsIsOneParenthesisedWholeWrong)

/-- 'zzlaws_root_b1.FnTableNamesWhatStepRecordsReads': WHATEVER THE INPUT: true; the input reads as it did. -/
def fnTableNamesWhatStepRecordsReadsSpec : ChangeSpec := { name := "fnTableNamesWhatStepRecordsReads", fn := fun _ => fun
  | [d1, d2, d3] => { results := [.lit (.bool true)], args := [d1, d2, d3] }
  | _ => none }
def fnTableNamesWhatStepRecordsReadsRow : OpenClaim := { program := "qxb6602899a", sum := "ab7b50d7982feded1ec3306b47814313636fa52426aded2d2e3a5dc91d5dcc4a", func := "example.com/ikkan/ikkan/zzlaws_root_b1.FnTableNamesWhatStepRecordsReads", spec := "fnTableNamesWhatStepRecordsReads", apart := false }
def FnTableNamesWhatStepRecordsReadsSaid : Prop := fnTableNamesWhatStepRecordsReadsRow.holds Try.pinned (OpenSpec.ofChange fnTableNamesWhatStepRecordsReadsSpec)

/-- ITS FALSE NEIGHBOUR: 'it returns false'. Refute it at one input. -/
def fnTableNamesWhatStepRecordsReadsWrong : ChangeSpec := { name := "fnTableNamesWhatStepRecordsReads", fn := fun _ => fun
  | [d1, d2, d3] => { results := [.lit (.bool false)], args := [d1, d2, d3] }
  | _ => none }
def FnTableNamesWhatStepRecordsReadsWrongFalsely : Prop := fnTableNamesWhatStepRecordsReadsRow.holds Try.pinned (OpenSpec.ofChange fnTableNamesWhatStepRecordsReadsWrong)

end Rows
end Go.Proofs.Qxb6602899a
