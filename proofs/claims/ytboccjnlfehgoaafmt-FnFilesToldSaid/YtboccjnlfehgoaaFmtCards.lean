/-
  DERIVED. GIVEN WITH THE SEED: THE CARDS: each row of YtboccjnlfehgoaaFmtRows.lean that lists a variable, with what it lists TIED to the program's text (the seventh form; the later family's looks); each row that meets fmt, with fmt's text TOLD by the authors' own Lean function (tested against real Go, not proved from fmt's source: count such statements apart). THE CARD IS WHAT COUNTS. Prove the row's statement (the work); the ties are given (YtboccjnlfehgoaaFmtTie.lean); close each card by the builder's one call (the guide's Derived/Test/ToyasCard.lean, 'card_holds'). Laid BY PROGRAM, IN A SANDBOX (cutbox-door.mjs). By AI agents, Wed Nov 11 2026. No macro, syntax, notation, axiom, sorry.
-/
import Derived.Test.YtboccjnlfehgoaaFmtRows
import GoSem.ClaimSeven
namespace Go.Proofs.YtboccjnlfehgoaaFmt
namespace Rows

/-- THE TOLD AND TIED CARD OF 'laws.FnText'. -/
def fnTextCard : Claim7 := { stood := { row := fnTextRow, standIns := [], harness := (true, "70768906a9310ae709b9e39623298216b4f4497518a7d6135b3e8c3dbd1a7efb"), looks := false }, told := true, laidByText := true, laidKinds := [.data, .data, .data], laidTests := true, laidLooks := .later, goes := false }
def FnTextToldSaid : Prop := Claim7.holds Tryf.pinned (.plain (OpenSpec.ofChange fnTextSpec)) fnTextCard
/-- ITS FALSE NEIGHBOUR. Refute it at one input. -/
def FnTextToldWrongFalsely : Prop := Claim7.holds Tryf.pinned (.plain (OpenSpec.ofChange fnTextWrong)) fnTextCard

/-- THE TOLD CARD OF 'laws.FnAdded'. -/
def fnAddedCard : Claim7 := { stood := { row := fnAddedRow, standIns := [], harness := (true, "70768906a9310ae709b9e39623298216b4f4497518a7d6135b3e8c3dbd1a7efb"), looks := false }, told := true, goes := false }
def FnAddedToldSaid : Prop := Claim7.holds Tryf.pinned (.plain (OpenSpec.ofChange fnAddedSpec)) fnAddedCard
/-- ITS FALSE NEIGHBOUR. Refute it at one input. -/
def FnAddedToldWrongFalsely : Prop := Claim7.holds Tryf.pinned (.plain (OpenSpec.ofChange fnAddedWrong)) fnAddedCard

/-- THE TOLD CARD OF 'laws.FnNoPosition'. -/
def fnNoPositionCard : Claim7 := { stood := { row := fnNoPositionRow, standIns := [], harness := (true, "70768906a9310ae709b9e39623298216b4f4497518a7d6135b3e8c3dbd1a7efb"), looks := false }, told := true, goes := false }
def FnNoPositionToldSaid : Prop := Claim7.holds Tryf.pinned (.plain (OpenSpec.ofChange fnNoPositionSpec)) fnNoPositionCard
/-- ITS FALSE NEIGHBOUR. Refute it at one input. -/
def FnNoPositionToldWrongFalsely : Prop := Claim7.holds Tryf.pinned (.plain (OpenSpec.ofChange fnNoPositionWrong)) fnNoPositionCard

/-- THE TOLD CARD OF 'laws.FnContent'. -/
def fnContentCard : Claim7 := { stood := { row := fnContentRow, standIns := [], harness := (true, "70768906a9310ae709b9e39623298216b4f4497518a7d6135b3e8c3dbd1a7efb"), looks := false }, told := true, goes := false }
def FnContentToldSaid : Prop := Claim7.holds Tryf.pinned (.plain (OpenSpec.ofChange fnContentSpec)) fnContentCard
/-- ITS FALSE NEIGHBOUR. Refute it at one input. -/
def FnContentToldWrongFalsely : Prop := Claim7.holds Tryf.pinned (.plain (OpenSpec.ofChange fnContentWrong)) fnContentCard

/-- THE TOLD CARD OF 'laws.FnAnswers'. -/
def fnAnswersCard : Claim7 := { stood := { row := fnAnswersRow, standIns := [], harness := (true, "70768906a9310ae709b9e39623298216b4f4497518a7d6135b3e8c3dbd1a7efb"), looks := false }, told := true, goes := false }
def FnAnswersToldSaid : Prop := Claim7.holds Tryf.pinned (.plain (OpenSpec.ofChange fnAnswersSpec)) fnAnswersCard
/-- ITS FALSE NEIGHBOUR. Refute it at one input. -/
def FnAnswersToldWrongFalsely : Prop := Claim7.holds Tryf.pinned (.plain (OpenSpec.ofChange fnAnswersWrong)) fnAnswersCard

/-- THE TOLD CARD OF 'laws.FnFiles'. -/
def fnFilesCard : Claim7 := { stood := { row := fnFilesRow, standIns := [], harness := (true, "70768906a9310ae709b9e39623298216b4f4497518a7d6135b3e8c3dbd1a7efb"), looks := false }, told := true, goes := false }
def FnFilesToldSaid : Prop := Claim7.holds Tryf.pinned (.plain (OpenSpec.ofChange fnFilesSpec)) fnFilesCard
/-- ITS FALSE NEIGHBOUR. Refute it at one input. -/
def FnFilesToldWrongFalsely : Prop := Claim7.holds Tryf.pinned (.plain (OpenSpec.ofChange fnFilesWrong)) fnFilesCard

/-- THE TOLD CARD OF 'laws.FnOffset'. -/
def fnOffsetCard : Claim7 := { stood := { row := fnOffsetRow, standIns := [], harness := (true, "70768906a9310ae709b9e39623298216b4f4497518a7d6135b3e8c3dbd1a7efb"), looks := false }, told := true, goes := false }
def FnOffsetToldSaid : Prop := Claim7.holds Tryf.pinned (.plain (OpenSpec.ofChange fnOffsetSpec)) fnOffsetCard
/-- ITS FALSE NEIGHBOUR. Refute it at one input. -/
def FnOffsetToldWrongFalsely : Prop := Claim7.holds Tryf.pinned (.plain (OpenSpec.ofChange fnOffsetWrong)) fnOffsetCard

/-- THE TOLD CARD OF 'laws.FnPos'. -/
def fnPosCard : Claim7 := { stood := { row := fnPosRow, standIns := [], harness := (true, "70768906a9310ae709b9e39623298216b4f4497518a7d6135b3e8c3dbd1a7efb"), looks := false }, told := true, goes := false }
def FnPosToldSaid : Prop := Claim7.holds Tryf.pinned (.plain (OpenSpec.ofChange fnPosSpec)) fnPosCard
/-- ITS FALSE NEIGHBOUR. Refute it at one input. -/
def FnPosToldWrongFalsely : Prop := Claim7.holds Tryf.pinned (.plain (OpenSpec.ofChange fnPosWrong)) fnPosCard

/-- THE TOLD CARD OF 'laws.FnLineStart'. -/
def fnLineStartCard : Claim7 := { stood := { row := fnLineStartRow, standIns := [], harness := (true, "70768906a9310ae709b9e39623298216b4f4497518a7d6135b3e8c3dbd1a7efb"), looks := false }, told := true, goes := false }
def FnLineStartToldSaid : Prop := Claim7.holds Tryf.pinned (.plain (OpenSpec.ofChange fnLineStartSpec)) fnLineStartCard
/-- ITS FALSE NEIGHBOUR. Refute it at one input. -/
def FnLineStartToldWrongFalsely : Prop := Claim7.holds Tryf.pinned (.plain (OpenSpec.ofChange fnLineStartWrong)) fnLineStartCard
end Rows
end Go.Proofs.YtboccjnlfehgoaaFmt
