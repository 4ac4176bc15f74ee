/-
  DERIVED. GIVEN WITH THE SEED: THE CARDS: each row of Qxb6604484aFmtRows.lean that lists a variable, with what it lists TIED to the program's text (the seventh form; the later family's looks); each row that meets fmt, with fmt's text TOLD by the authors' own Lean function (tested against real Go, not proved from fmt's source: count such statements apart). THE CARD IS WHAT COUNTS. Prove the row's statement (the work); the ties are given (Qxb6604484aFmtTie.lean); close each card by the builder's one call (the guide's Derived/Test/ToyasCard.lean, 'card_holds'). Laid BY PROGRAM, IN A SANDBOX (cutbox-door.mjs). By AI agents, Wed Nov 11 2026. No macro, syntax, notation, axiom, sorry.
-/
import Derived.Test.Qxb6604484aFmtRows
import GoSem.ClaimSeven
namespace Go.Proofs.Qxb6604484aFmt
namespace Rows

/-- THE TOLD CARD OF 'zzlaws_config_b1.FnKeyErrorAgreesWithFolderRequired'. -/
def fnKeyErrorAgreesWithFolderRequiredCard : Claim7 := { stood := { row := fnKeyErrorAgreesWithFolderRequiredRow, standIns := [], harness := (true, "32ad2b2375d20cd150534446db7f09af51e32203485d94ceec163814f429acc4"), looks := true }, told := true, goes := false }
def FnKeyErrorAgreesWithFolderRequiredToldSaid : Prop := Claim7.holds Tryf.pinned (.plain (OpenSpec.ofChange fnKeyErrorAgreesWithFolderRequiredSpec)) fnKeyErrorAgreesWithFolderRequiredCard
/-- ITS FALSE NEIGHBOUR. Refute it at one input. -/
def FnKeyErrorAgreesWithFolderRequiredToldWrongFalsely : Prop := Claim7.holds Tryf.pinned (.plain (OpenSpec.ofChange fnKeyErrorAgreesWithFolderRequiredWrong)) fnKeyErrorAgreesWithFolderRequiredCard

/-- THE TOLD CARD OF 'zzlaws_config_b1.FnStrScriptOfReads'. -/
def fnStrScriptOfReadsCard : Claim7 := { stood := { row := fnStrScriptOfReadsRow, standIns := [], harness := (true, "32ad2b2375d20cd150534446db7f09af51e32203485d94ceec163814f429acc4"), looks := true }, told := true, goes := false }
def FnStrScriptOfReadsToldSaid : Prop := Claim7.holds Tryf.pinned (.plain (OpenSpec.ofChange fnStrScriptOfReadsSpec)) fnStrScriptOfReadsCard
/-- ITS FALSE NEIGHBOUR. Refute it at one input. -/
def FnStrScriptOfReadsToldWrongFalsely : Prop := Claim7.holds Tryf.pinned (.plain (OpenSpec.ofChange fnStrScriptOfReadsWrong)) fnStrScriptOfReadsCard

/-- THE TOLD CARD OF 'zzlaws_config_b1.FnPositiveNumberAgreesWithCount'. -/
def fnPositiveNumberAgreesWithCountCard : Claim7 := { stood := { row := fnPositiveNumberAgreesWithCountRow, standIns := [], harness := (true, "32ad2b2375d20cd150534446db7f09af51e32203485d94ceec163814f429acc4"), looks := true }, told := true, goes := false }
def FnPositiveNumberAgreesWithCountToldSaid : Prop := Claim7.holds Tryf.pinned (.plain (OpenSpec.ofChange fnPositiveNumberAgreesWithCountSpec)) fnPositiveNumberAgreesWithCountCard
/-- ITS FALSE NEIGHBOUR. Refute it at one input. -/
def FnPositiveNumberAgreesWithCountToldWrongFalsely : Prop := Claim7.holds Tryf.pinned (.plain (OpenSpec.ofChange fnPositiveNumberAgreesWithCountWrong)) fnPositiveNumberAgreesWithCountCard

/-- THE TOLD CARD OF 'zzlaws_config_b1.FnFolderExactOnSlashSystems'. -/
def fnFolderExactOnSlashSystemsCard : Claim7 := { stood := { row := fnFolderExactOnSlashSystemsRow, standIns := [], harness := (true, "32ad2b2375d20cd150534446db7f09af51e32203485d94ceec163814f429acc4"), looks := true }, told := true, goes := false }
def FnFolderExactOnSlashSystemsToldSaid : Prop := Claim7.holds Tryf.pinned (.plain (OpenSpec.ofChange fnFolderExactOnSlashSystemsSpec)) fnFolderExactOnSlashSystemsCard
/-- ITS FALSE NEIGHBOUR. Refute it at one input. -/
def FnFolderExactOnSlashSystemsToldWrongFalsely : Prop := Claim7.holds Tryf.pinned (.plain (OpenSpec.ofChange fnFolderExactOnSlashSystemsWrong)) fnFolderExactOnSlashSystemsCard

/-- THE TOLD CARD OF 'zzlaws_config_b1.FnFolderAnswerCleanAndSettled'. -/
def fnFolderAnswerCleanAndSettledCard : Claim7 := { stood := { row := fnFolderAnswerCleanAndSettledRow, standIns := [], harness := (true, "32ad2b2375d20cd150534446db7f09af51e32203485d94ceec163814f429acc4"), looks := true }, told := true, goes := false }
def FnFolderAnswerCleanAndSettledToldSaid : Prop := Claim7.holds Tryf.pinned (.plain (OpenSpec.ofChange fnFolderAnswerCleanAndSettledSpec)) fnFolderAnswerCleanAndSettledCard
/-- ITS FALSE NEIGHBOUR. Refute it at one input. -/
def FnFolderAnswerCleanAndSettledToldWrongFalsely : Prop := Claim7.holds Tryf.pinned (.plain (OpenSpec.ofChange fnFolderAnswerCleanAndSettledWrong)) fnFolderAnswerCleanAndSettledCard
end Rows
end Go.Proofs.Qxb6604484aFmt
