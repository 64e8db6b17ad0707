/-
  DERIVED. GIVEN WITH THE SEED: THE CARDS: each row of YtgehgiafhfgacaaFmtRows.lean that lists a variable, with what it lists TIED to the program's text (the seventh form; the later family's looks); each row that meets fmt, with fmt's text TOLD by the authors' own Lean function (tested against real Go, not proved from fmt's source: count such statements apart). THE CARD IS WHAT COUNTS. Prove the row's statement (the work); the ties are given (YtgehgiafhfgacaaFmtTie.lean); close each card by the builder's one call (the guide's Derived/Test/ToyasCard.lean, 'card_holds'). Laid BY PROGRAM, IN A SANDBOX (cutbox-door.mjs). By AI agents, Wed Nov 11 2026. No macro, syntax, notation, axiom, sorry.
-/
import Derived.Test.YtgehgiafhfgacaaFmtRows
import GoSem.ClaimSeven
namespace Go.Proofs.YtgehgiafhfgacaaFmt
namespace Rows

/-- THE TOLD CARD OF 'laws.FnColumn'. -/
def fnColumnCard : Claim7 := { stood := { row := fnColumnRow, standIns := [], harness := (true, "c3c8fa265da8903b001313bcedec773030d83a7b3d7d34969f7f4874efc55c40"), looks := false }, told := true, goes := false }
def FnColumnToldSaid : Prop := Claim7.holds Tryf.pinned (.plain (OpenSpec.ofChange fnColumnSpec)) fnColumnCard
/-- ITS FALSE NEIGHBOUR. Refute it at one input. -/
def FnColumnToldWrongFalsely : Prop := Claim7.holds Tryf.pinned (.plain (OpenSpec.ofChange fnColumnWrong)) fnColumnCard

/-- THE TOLD CARD OF 'laws.FnEarlier'. -/
def fnEarlierCard : Claim7 := { stood := { row := fnEarlierRow, standIns := [], harness := (true, "c3c8fa265da8903b001313bcedec773030d83a7b3d7d34969f7f4874efc55c40"), looks := false }, told := true, goes := false }
def FnEarlierToldSaid : Prop := Claim7.holds Tryf.pinned (.plain (OpenSpec.ofChange fnEarlierSpec)) fnEarlierCard
/-- ITS FALSE NEIGHBOUR. Refute it at one input. -/
def FnEarlierToldWrongFalsely : Prop := Claim7.holds Tryf.pinned (.plain (OpenSpec.ofChange fnEarlierWrong)) fnEarlierCard

/-- THE TOLD CARD OF 'laws.FnStartBack'. -/
def fnStartBackCard : Claim7 := { stood := { row := fnStartBackRow, standIns := [], harness := (true, "c3c8fa265da8903b001313bcedec773030d83a7b3d7d34969f7f4874efc55c40"), looks := false }, told := true, goes := false }
def FnStartBackToldSaid : Prop := Claim7.holds Tryf.pinned (.plain (OpenSpec.ofChange fnStartBackSpec)) fnStartBackCard
/-- ITS FALSE NEIGHBOUR. Refute it at one input. -/
def FnStartBackToldWrongFalsely : Prop := Claim7.holds Tryf.pinned (.plain (OpenSpec.ofChange fnStartBackWrong)) fnStartBackCard

/-- THE TOLD CARD OF 'laws.FnStartColumn'. -/
def fnStartColumnCard : Claim7 := { stood := { row := fnStartColumnRow, standIns := [], harness := (true, "c3c8fa265da8903b001313bcedec773030d83a7b3d7d34969f7f4874efc55c40"), looks := false }, told := true, goes := false }
def FnStartColumnToldSaid : Prop := Claim7.holds Tryf.pinned (.plain (OpenSpec.ofChange fnStartColumnSpec)) fnStartColumnCard
/-- ITS FALSE NEIGHBOUR. Refute it at one input. -/
def FnStartColumnToldWrongFalsely : Prop := Claim7.holds Tryf.pinned (.plain (OpenSpec.ofChange fnStartColumnWrong)) fnStartColumnCard

/-- THE TOLD CARD OF 'laws.FnAddedSet'. -/
def fnAddedSetCard : Claim7 := { stood := { row := fnAddedSetRow, standIns := [], harness := (true, "c3c8fa265da8903b001313bcedec773030d83a7b3d7d34969f7f4874efc55c40"), looks := false }, told := true, goes := false }
def FnAddedSetToldSaid : Prop := Claim7.holds Tryf.pinned (.plain (OpenSpec.ofChange fnAddedSetSpec)) fnAddedSetCard
/-- ITS FALSE NEIGHBOUR. Refute it at one input. -/
def FnAddedSetToldWrongFalsely : Prop := Claim7.holds Tryf.pinned (.plain (OpenSpec.ofChange fnAddedSetWrong)) fnAddedSetCard

/-- THE TOLD CARD OF 'laws.FnSetPosition'. -/
def fnSetPositionCard : Claim7 := { stood := { row := fnSetPositionRow, standIns := [], harness := (true, "c3c8fa265da8903b001313bcedec773030d83a7b3d7d34969f7f4874efc55c40"), looks := false }, told := true, goes := false }
def FnSetPositionToldSaid : Prop := Claim7.holds Tryf.pinned (.plain (OpenSpec.ofChange fnSetPositionSpec)) fnSetPositionCard
/-- ITS FALSE NEIGHBOUR. Refute it at one input. -/
def FnSetPositionToldWrongFalsely : Prop := Claim7.holds Tryf.pinned (.plain (OpenSpec.ofChange fnSetPositionWrong)) fnSetPositionCard
end Rows
end Go.Proofs.YtgehgiafhfgacaaFmt
