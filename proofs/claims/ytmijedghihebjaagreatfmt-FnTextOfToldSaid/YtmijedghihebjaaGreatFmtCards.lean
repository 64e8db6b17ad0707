/-
  DERIVED. GIVEN WITH THE SEED: THE CARDS: each row of YtmijedghihebjaaGreatFmtRows.lean that lists a variable, with what it lists TIED to the program's text (the seventh form; the later family's looks); each row that meets fmt, with fmt's text TOLD by the authors' own Lean function (tested against real Go, not proved from fmt's source: count such statements apart). THE CARD IS WHAT COUNTS. Prove the row's statement (the work); the ties are given (YtmijedghihebjaaGreatFmtTie.lean); close each card by the builder's one call (the guide's Derived/Test/ToyasCard.lean, 'card_holds'). Laid BY PROGRAM, IN A SANDBOX (cutbox-door.mjs). By AI agents, Wed Nov 11 2026. No macro, syntax, notation, axiom, sorry.
-/
import Derived.Test.YtmijedghihebjaaGreatFmtRows
import GoSem.ClaimSeven
namespace Go.Proofs.YtmijedghihebjaaGreatFmt
namespace Rows

/-- THE TOLD AND TIED CARD OF 'laws.FnTextOf'. -/
def fnTextOfCard : Claim7 := { stood := { row := fnTextOfRow, standIns := [], harness := (true, "8265cc1bbff5709367505125738129ea2ccadce2e445dfbeced8faadf118811c"), looks := false }, told := true, laidByText := true, laidKinds := [.data, .data, .data], laidTests := true, laidLooks := .later, goes := false }
def FnTextOfToldSaid : Prop := Claim7.holds Tryz.pinned (.plain (OpenSpec.ofChange fnTextOfSpec)) fnTextOfCard
/-- ITS FALSE NEIGHBOUR. Refute it at one input. -/
def FnTextOfToldWrongFalsely : Prop := Claim7.holds Tryz.pinned (.plain (OpenSpec.ofChange fnTextOfWrong)) fnTextOfCard
end Rows
end Go.Proofs.YtmijedghihebjaaGreatFmt
