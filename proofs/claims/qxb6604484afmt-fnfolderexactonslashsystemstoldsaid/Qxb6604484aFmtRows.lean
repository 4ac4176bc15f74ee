/-
  No cell of these rows narrows 'for every input' (looked for: loops, veiled, ifaces, maps, wideKeys, modest, calm, conditions, laid).
  DERIVED. THE GIVEN ROWS OF THIS SEAT. 5 by the template 'for every input the law returns true; each argument reads behind the call as it read before'; 0 by the template 'total and deterministic' (their statements: Qxb6604484aFmtTotals.lean).
  GIVEN WITH THE SEED: the statements are not yours to turn. If you find one false, say at which input.
  Laid BY PROGRAM, IN A SANDBOX (cutbox-rows.mjs): the forced cells as the released guide's own fill.sh prints them over the translation 95b253896992c3c4… (all of the seat's roots in one cut). By AI agents, Wed Nov 11 2026. No macro, syntax, notation, axiom, sorry.
-/
import Derived.Test.Qxb6604484aFmtChecked
import GoSem.Claim
import GoSem.ClaimJoined
import GoSem.ClaimMapViews
import Derived.JoinedTies
import Derived.KernelRfl
namespace Go.Proofs.Qxb6604484aFmt
/- THE CELL 'sum', in the pinned program and in every row, IS THE sha256 OF THE DUMP (.gsa) THAT Qxb6604484aFmtProg.lean LOADS. Nothing in Lean hashes anything: it is a label: what it is worth is what the hold of that sum in a sandbox is worth. -/
noncomputable def Tryf.pinned : Pinned := { name := "qxb6604484afmt", sum := "95b253896992c3c4659ba61ca26d7a4efbaef47caae31b09a3c1a9898246c87a", checked := Tryf.checked }
namespace Rows
def none {H : Type} : Left H := { results := [], args := [] }

/-- 'zzlaws_config_b1.FnKeyErrorAgreesWithFolderRequired': WHATEVER THE INPUT: true; the input reads as it did. -/
def fnKeyErrorAgreesWithFolderRequiredSpec : ChangeSpec := { name := "fnKeyErrorAgreesWithFolderRequired", fn := fun _ => fun
  | [d1, d2, d3] => { results := [.lit (.bool true)], args := [d1, d2, d3] }
  | _ => none }
def fnKeyErrorAgreesWithFolderRequiredRow : OpenClaim := { program := "qxb6604484afmt", sum := "95b253896992c3c4659ba61ca26d7a4efbaef47caae31b09a3c1a9898246c87a", func := "example.com/vole/vole/zzlaws_config_b1.FnKeyErrorAgreesWithFolderRequired", spec := "fnKeyErrorAgreesWithFolderRequired", stops := ["fmt.Sprintf"], inPlace := ["fmt.Sprintf", "internal/bytealg.IndexByteString", "internal/abi.NoEscape", "internal/bytealg.MakeNoZero"], apart := false }
/-- NO THEOREM (fmt's text is open here; it may be false): for the released tool's asking of the row's closed facts alone. THE STATEMENT IS 'FnKeyErrorAgreesWithFolderRequiredToldSaid' (Qxb6604484aFmtCards.lean). -/
def FnKeyErrorAgreesWithFolderRequiredFormAsk : Prop := fnKeyErrorAgreesWithFolderRequiredRow.holds Tryf.pinned (OpenSpec.ofChange fnKeyErrorAgreesWithFolderRequiredSpec)

/-- ITS FALSE NEIGHBOUR: 'it returns false'. Refute it at one input. -/
def fnKeyErrorAgreesWithFolderRequiredWrong : ChangeSpec := { name := "fnKeyErrorAgreesWithFolderRequired", fn := fun _ => fun
  | [d1, d2, d3] => { results := [.lit (.bool false)], args := [d1, d2, d3] }
  | _ => none }
def FnKeyErrorAgreesWithFolderRequiredWrongFormAsk : Prop := fnKeyErrorAgreesWithFolderRequiredRow.holds Tryf.pinned (OpenSpec.ofChange fnKeyErrorAgreesWithFolderRequiredWrong)

/-- 'zzlaws_config_b1.FnStrScriptOfReads': WHATEVER THE INPUT: true; the input reads as it did. -/
def fnStrScriptOfReadsSpec : ChangeSpec := { name := "fnStrScriptOfReads", fn := fun _ => fun
  | [d1, d2, d3, d4, d5, d6] => { results := [.lit (.bool true)], args := [d1, d2, d3, d4, d5, d6] }
  | _ => none }
def fnStrScriptOfReadsRow : OpenClaim := { program := "qxb6604484afmt", sum := "95b253896992c3c4659ba61ca26d7a4efbaef47caae31b09a3c1a9898246c87a", func := "example.com/vole/vole/zzlaws_config_b1.FnStrScriptOfReads", spec := "fnStrScriptOfReads", stops := ["fmt.Sprintf"], inPlace := ["fmt.Sprintf"], apart := false }
/-- NO THEOREM (fmt's text is open here; it may be false): for the released tool's asking of the row's closed facts alone. THE STATEMENT IS 'FnStrScriptOfReadsToldSaid' (Qxb6604484aFmtCards.lean). -/
def FnStrScriptOfReadsFormAsk : Prop := fnStrScriptOfReadsRow.holds Tryf.pinned (OpenSpec.ofChange fnStrScriptOfReadsSpec)

/-- ITS FALSE NEIGHBOUR: 'it returns false'. Refute it at one input. -/
def fnStrScriptOfReadsWrong : ChangeSpec := { name := "fnStrScriptOfReads", fn := fun _ => fun
  | [d1, d2, d3, d4, d5, d6] => { results := [.lit (.bool false)], args := [d1, d2, d3, d4, d5, d6] }
  | _ => none }
def FnStrScriptOfReadsWrongFormAsk : Prop := fnStrScriptOfReadsRow.holds Tryf.pinned (OpenSpec.ofChange fnStrScriptOfReadsWrong)

/-- 'zzlaws_config_b1.FnPositiveNumberAgreesWithCount': WHATEVER THE INPUT: true; the input reads as it did. -/
def fnPositiveNumberAgreesWithCountSpec : ChangeSpec := { name := "fnPositiveNumberAgreesWithCount", fn := fun _ => fun
  | [d1, d2, d3, d4, d5] => { results := [.lit (.bool true)], args := [d1, d2, d3, d4, d5] }
  | _ => none }
def fnPositiveNumberAgreesWithCountRow : OpenClaim := { program := "qxb6604484afmt", sum := "95b253896992c3c4659ba61ca26d7a4efbaef47caae31b09a3c1a9898246c87a", func := "example.com/vole/vole/zzlaws_config_b1.FnPositiveNumberAgreesWithCount", spec := "fnPositiveNumberAgreesWithCount", stops := ["fmt.Sprintf"], inPlace := ["fmt.Sprintf", "math.Float64bits", "math.Float64frombits"], apart := false }
/-- NO THEOREM (fmt's text is open here; it may be false): for the released tool's asking of the row's closed facts alone. THE STATEMENT IS 'FnPositiveNumberAgreesWithCountToldSaid' (Qxb6604484aFmtCards.lean). -/
def FnPositiveNumberAgreesWithCountFormAsk : Prop := fnPositiveNumberAgreesWithCountRow.holds Tryf.pinned (OpenSpec.ofChange fnPositiveNumberAgreesWithCountSpec)

/-- ITS FALSE NEIGHBOUR: 'it returns false'. Refute it at one input. -/
def fnPositiveNumberAgreesWithCountWrong : ChangeSpec := { name := "fnPositiveNumberAgreesWithCount", fn := fun _ => fun
  | [d1, d2, d3, d4, d5] => { results := [.lit (.bool false)], args := [d1, d2, d3, d4, d5] }
  | _ => none }
def FnPositiveNumberAgreesWithCountWrongFormAsk : Prop := fnPositiveNumberAgreesWithCountRow.holds Tryf.pinned (OpenSpec.ofChange fnPositiveNumberAgreesWithCountWrong)

/-- 'zzlaws_config_b1.FnFolderExactOnSlashSystems': WHATEVER THE INPUT: true; the input reads as it did. -/
def fnFolderExactOnSlashSystemsSpec : ChangeSpec := { name := "fnFolderExactOnSlashSystems", fn := fun _ => fun
  | [d1, d2, d3, d4, d5, d6, d7] => { results := [.lit (.bool true)], args := [d1, d2, d3, d4, d5, d6, d7] }
  | _ => none }
def fnFolderExactOnSlashSystemsRow : OpenClaim := { program := "qxb6604484afmt", sum := "95b253896992c3c4659ba61ca26d7a4efbaef47caae31b09a3c1a9898246c87a", func := "example.com/vole/vole/zzlaws_config_b1.FnFolderExactOnSlashSystems", spec := "fnFolderExactOnSlashSystems", stops := ["fmt.Sprintf"], inPlace := ["fmt.Sprintf", "internal/bytealg.IndexByteString", "internal/abi.NoEscape", "internal/bytealg.MakeNoZero"], apart := false }
/-- NO THEOREM (fmt's text is open here; it may be false): for the released tool's asking of the row's closed facts alone. THE STATEMENT IS 'FnFolderExactOnSlashSystemsToldSaid' (Qxb6604484aFmtCards.lean). -/
def FnFolderExactOnSlashSystemsFormAsk : Prop := fnFolderExactOnSlashSystemsRow.holds Tryf.pinned (OpenSpec.ofChange fnFolderExactOnSlashSystemsSpec)

/-- ITS FALSE NEIGHBOUR: 'it returns false'. Refute it at one input. -/
def fnFolderExactOnSlashSystemsWrong : ChangeSpec := { name := "fnFolderExactOnSlashSystems", fn := fun _ => fun
  | [d1, d2, d3, d4, d5, d6, d7] => { results := [.lit (.bool false)], args := [d1, d2, d3, d4, d5, d6, d7] }
  | _ => none }
def FnFolderExactOnSlashSystemsWrongFormAsk : Prop := fnFolderExactOnSlashSystemsRow.holds Tryf.pinned (OpenSpec.ofChange fnFolderExactOnSlashSystemsWrong)

/-- 'zzlaws_config_b1.FnFolderAnswerCleanAndSettled': WHATEVER THE INPUT: true; the input reads as it did. -/
def fnFolderAnswerCleanAndSettledSpec : ChangeSpec := { name := "fnFolderAnswerCleanAndSettled", fn := fun _ => fun
  | [d1, d2, d3, d4, d5] => { results := [.lit (.bool true)], args := [d1, d2, d3, d4, d5] }
  | _ => none }
def fnFolderAnswerCleanAndSettledRow : OpenClaim := { program := "qxb6604484afmt", sum := "95b253896992c3c4659ba61ca26d7a4efbaef47caae31b09a3c1a9898246c87a", func := "example.com/vole/vole/zzlaws_config_b1.FnFolderAnswerCleanAndSettled", spec := "fnFolderAnswerCleanAndSettled", stops := ["fmt.Sprintf"], inPlace := ["fmt.Sprintf", "internal/bytealg.IndexByteString", "internal/abi.NoEscape", "internal/bytealg.MakeNoZero"], apart := false }
/-- NO THEOREM (fmt's text is open here; it may be false): for the released tool's asking of the row's closed facts alone. THE STATEMENT IS 'FnFolderAnswerCleanAndSettledToldSaid' (Qxb6604484aFmtCards.lean). -/
def FnFolderAnswerCleanAndSettledFormAsk : Prop := fnFolderAnswerCleanAndSettledRow.holds Tryf.pinned (OpenSpec.ofChange fnFolderAnswerCleanAndSettledSpec)

/-- ITS FALSE NEIGHBOUR: 'it returns false'. Refute it at one input. -/
def fnFolderAnswerCleanAndSettledWrong : ChangeSpec := { name := "fnFolderAnswerCleanAndSettled", fn := fun _ => fun
  | [d1, d2, d3, d4, d5] => { results := [.lit (.bool false)], args := [d1, d2, d3, d4, d5] }
  | _ => none }
def FnFolderAnswerCleanAndSettledWrongFormAsk : Prop := fnFolderAnswerCleanAndSettledRow.holds Tryf.pinned (OpenSpec.ofChange fnFolderAnswerCleanAndSettledWrong)

end Rows
end Go.Proofs.Qxb6604484aFmt
