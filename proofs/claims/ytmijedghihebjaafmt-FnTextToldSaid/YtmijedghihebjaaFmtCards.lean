/-
  DERIVED. GIVEN WITH THE SEED: THE CARDS: each row of YtmijedghihebjaaFmtRows.lean that lists a variable, with what it lists TIED to the program's text (the seventh form; the later family's looks); each row that meets fmt, with fmt's text TOLD by the authors' own Lean function (tested against real Go, not proved from fmt's source: count such statements apart). THE CARD IS WHAT COUNTS. Prove the row's statement (the work); the ties are given (YtmijedghihebjaaFmtTie.lean); close each card by the builder's one call (the guide's Derived/Test/ToyasCard.lean, 'card_holds'). Laid BY PROGRAM, IN A SANDBOX (cutbox-door.mjs). By AI agents, Wed Nov 11 2026. No macro, syntax, notation, axiom, sorry.
-/
import Derived.Test.YtmijedghihebjaaFmtRows
import GoSem.ClaimSeven
namespace Go.Proofs.YtmijedghihebjaaFmt
namespace Rows

/-- THE TOLD AND TIED CARD OF 'laws.FnText'. -/
def fnTextCard : Claim7 := { stood := { row := fnTextRow, standIns := [], harness := (true, "336dc2685b0076b332aac6e61ed637caf472789b148af94a2ab741b0655ef047"), looks := false }, told := true, laidByText := true, laidKinds := [.data, .data, .data], laidTests := true, laidLooks := .later, goes := false }
def FnTextToldSaid : Prop := Claim7.holds Tryf.pinned (.plain (OpenSpec.ofChange fnTextSpec)) fnTextCard
/-- ITS FALSE NEIGHBOUR. Refute it at one input. -/
def FnTextToldWrongFalsely : Prop := Claim7.holds Tryf.pinned (.plain (OpenSpec.ofChange fnTextWrong)) fnTextCard
end Rows
end Go.Proofs.YtmijedghihebjaaFmt
