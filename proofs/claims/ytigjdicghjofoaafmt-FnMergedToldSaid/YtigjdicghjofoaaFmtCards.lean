/-
  DERIVED. GIVEN WITH THE SEED: THE CARDS: each row of YtigjdicghjofoaaFmtRows.lean that lists a variable, with what it lists TIED to the program's text (the seventh form; the later family's looks); each row that meets fmt, with fmt's text TOLD by the authors' own Lean function (tested against real Go, not proved from fmt's source: count such statements apart). THE CARD IS WHAT COUNTS. Prove the row's statement (the work); the ties are given (YtigjdicghjofoaaFmtTie.lean); close each card by the builder's one call (the guide's Derived/Test/ToyasCard.lean, 'card_holds'). Laid BY PROGRAM, IN A SANDBOX (cutbox-door.mjs). By AI agents, Wed Nov 11 2026. No macro, syntax, notation, axiom, sorry.
-/
import Derived.Test.YtigjdicghjofoaaFmtRows
import GoSem.ClaimSeven
namespace Go.Proofs.YtigjdicghjofoaaFmt
namespace Rows

/-- THE TOLD CARD OF 'laws.FnPosBack'. -/
def fnPosBackCard : Claim7 := { stood := { row := fnPosBackRow, standIns := [], harness := (true, "9922b379aaaebafcf9ae016f2dbe33d162b88fabc484e12ac0160b73c7951690"), looks := false }, told := true, goes := false }
def FnPosBackToldSaid : Prop := Claim7.holds Tryf.pinned (.plain (OpenSpec.ofChange fnPosBackSpec)) fnPosBackCard
/-- ITS FALSE NEIGHBOUR. Refute it at one input. -/
def FnPosBackToldWrongFalsely : Prop := Claim7.holds Tryf.pinned (.plain (OpenSpec.ofChange fnPosBackWrong)) fnPosBackCard

/-- THE TOLD CARD OF 'laws.FnSetBase'. -/
def fnSetBaseCard : Claim7 := { stood := { row := fnSetBaseRow, standIns := [], harness := (true, "9922b379aaaebafcf9ae016f2dbe33d162b88fabc484e12ac0160b73c7951690"), looks := false }, told := true, goes := false }
def FnSetBaseToldSaid : Prop := Claim7.holds Tryf.pinned (.plain (OpenSpec.ofChange fnSetBaseSpec)) fnSetBaseCard
/-- ITS FALSE NEIGHBOUR. Refute it at one input. -/
def FnSetBaseToldWrongFalsely : Prop := Claim7.holds Tryf.pinned (.plain (OpenSpec.ofChange fnSetBaseWrong)) fnSetBaseCard

/-- THE TOLD CARD OF 'laws.FnFileAt'. -/
def fnFileAtCard : Claim7 := { stood := { row := fnFileAtRow, standIns := [], harness := (true, "9922b379aaaebafcf9ae016f2dbe33d162b88fabc484e12ac0160b73c7951690"), looks := false }, told := true, goes := false }
def FnFileAtToldSaid : Prop := Claim7.holds Tryf.pinned (.plain (OpenSpec.ofChange fnFileAtSpec)) fnFileAtCard
/-- ITS FALSE NEIGHBOUR. Refute it at one input. -/
def FnFileAtToldWrongFalsely : Prop := Claim7.holds Tryf.pinned (.plain (OpenSpec.ofChange fnFileAtWrong)) fnFileAtCard

/-- THE TOLD CARD OF 'laws.FnApart'. -/
def fnApartCard : Claim7 := { stood := { row := fnApartRow, standIns := [], harness := (true, "9922b379aaaebafcf9ae016f2dbe33d162b88fabc484e12ac0160b73c7951690"), looks := false }, told := true, goes := false }
def FnApartToldSaid : Prop := Claim7.holds Tryf.pinned (.plain (OpenSpec.ofChange fnApartSpec)) fnApartCard
/-- ITS FALSE NEIGHBOUR. Refute it at one input. -/
def FnApartToldWrongFalsely : Prop := Claim7.holds Tryf.pinned (.plain (OpenSpec.ofChange fnApartWrong)) fnApartCard

/-- THE TOLD CARD OF 'laws.FnContentColumn'. -/
def fnContentColumnCard : Claim7 := { stood := { row := fnContentColumnRow, standIns := [], harness := (true, "9922b379aaaebafcf9ae016f2dbe33d162b88fabc484e12ac0160b73c7951690"), looks := false }, told := true, goes := false }
def FnContentColumnToldSaid : Prop := Claim7.holds Tryf.pinned (.plain (OpenSpec.ofChange fnContentColumnSpec)) fnContentColumnCard
/-- ITS FALSE NEIGHBOUR. Refute it at one input. -/
def FnContentColumnToldWrongFalsely : Prop := Claim7.holds Tryf.pinned (.plain (OpenSpec.ofChange fnContentColumnWrong)) fnContentColumnCard

/-- THE TOLD CARD OF 'laws.FnLine'. -/
def fnLineCard : Claim7 := { stood := { row := fnLineRow, standIns := [], harness := (true, "9922b379aaaebafcf9ae016f2dbe33d162b88fabc484e12ac0160b73c7951690"), looks := false }, told := true, goes := false }
def FnLineToldSaid : Prop := Claim7.holds Tryf.pinned (.plain (OpenSpec.ofChange fnLineSpec)) fnLineCard
/-- ITS FALSE NEIGHBOUR. Refute it at one input. -/
def FnLineToldWrongFalsely : Prop := Claim7.holds Tryf.pinned (.plain (OpenSpec.ofChange fnLineWrong)) fnLineCard

/-- THE TOLD CARD OF 'laws.FnMerged'. -/
def fnMergedCard : Claim7 := { stood := { row := fnMergedRow, standIns := [], harness := (true, "9922b379aaaebafcf9ae016f2dbe33d162b88fabc484e12ac0160b73c7951690"), looks := false }, told := true, goes := false }
def FnMergedToldSaid : Prop := Claim7.holds Tryf.pinned (.plain (OpenSpec.ofChange fnMergedSpec)) fnMergedCard
/-- ITS FALSE NEIGHBOUR. Refute it at one input. -/
def FnMergedToldWrongFalsely : Prop := Claim7.holds Tryf.pinned (.plain (OpenSpec.ofChange fnMergedWrong)) fnMergedCard

/-- THE TOLD CARD OF 'laws.FnOutside'. -/
def fnOutsideCard : Claim7 := { stood := { row := fnOutsideRow, standIns := [], harness := (true, "9922b379aaaebafcf9ae016f2dbe33d162b88fabc484e12ac0160b73c7951690"), looks := false }, told := true, goes := false }
def FnOutsideToldSaid : Prop := Claim7.holds Tryf.pinned (.plain (OpenSpec.ofChange fnOutsideSpec)) fnOutsideCard
/-- ITS FALSE NEIGHBOUR. Refute it at one input. -/
def FnOutsideToldWrongFalsely : Prop := Claim7.holds Tryf.pinned (.plain (OpenSpec.ofChange fnOutsideWrong)) fnOutsideCard

/-- THE TOLD CARD OF 'laws.FnPosition'. -/
def fnPositionCard : Claim7 := { stood := { row := fnPositionRow, standIns := [], harness := (true, "9922b379aaaebafcf9ae016f2dbe33d162b88fabc484e12ac0160b73c7951690"), looks := false }, told := true, goes := false }
def FnPositionToldSaid : Prop := Claim7.holds Tryf.pinned (.plain (OpenSpec.ofChange fnPositionSpec)) fnPositionCard
/-- ITS FALSE NEIGHBOUR. Refute it at one input. -/
def FnPositionToldWrongFalsely : Prop := Claim7.holds Tryf.pinned (.plain (OpenSpec.ofChange fnPositionWrong)) fnPositionCard

/-- THE TOLD CARD OF 'laws.FnRises'. -/
def fnRisesCard : Claim7 := { stood := { row := fnRisesRow, standIns := [], harness := (true, "9922b379aaaebafcf9ae016f2dbe33d162b88fabc484e12ac0160b73c7951690"), looks := false }, told := true, goes := false }
def FnRisesToldSaid : Prop := Claim7.holds Tryf.pinned (.plain (OpenSpec.ofChange fnRisesSpec)) fnRisesCard
/-- ITS FALSE NEIGHBOUR. Refute it at one input. -/
def FnRisesToldWrongFalsely : Prop := Claim7.holds Tryf.pinned (.plain (OpenSpec.ofChange fnRisesWrong)) fnRisesCard

/-- THE TOLD CARD OF 'laws.FnSetAgain'. -/
def fnSetAgainCard : Claim7 := { stood := { row := fnSetAgainRow, standIns := [], harness := (true, "9922b379aaaebafcf9ae016f2dbe33d162b88fabc484e12ac0160b73c7951690"), looks := false }, told := true, goes := false }
def FnSetAgainToldSaid : Prop := Claim7.holds Tryf.pinned (.plain (OpenSpec.ofChange fnSetAgainSpec)) fnSetAgainCard
/-- ITS FALSE NEIGHBOUR. Refute it at one input. -/
def FnSetAgainToldWrongFalsely : Prop := Claim7.holds Tryf.pinned (.plain (OpenSpec.ofChange fnSetAgainWrong)) fnSetAgainCard

/-- THE TOLD CARD OF 'laws.FnShifted'. -/
def fnShiftedCard : Claim7 := { stood := { row := fnShiftedRow, standIns := [], harness := (true, "9922b379aaaebafcf9ae016f2dbe33d162b88fabc484e12ac0160b73c7951690"), looks := false }, told := true, goes := false }
def FnShiftedToldSaid : Prop := Claim7.holds Tryf.pinned (.plain (OpenSpec.ofChange fnShiftedSpec)) fnShiftedCard
/-- ITS FALSE NEIGHBOUR. Refute it at one input. -/
def FnShiftedToldWrongFalsely : Prop := Claim7.holds Tryf.pinned (.plain (OpenSpec.ofChange fnShiftedWrong)) fnShiftedCard
end Rows
end Go.Proofs.YtigjdicghjofoaaFmt
