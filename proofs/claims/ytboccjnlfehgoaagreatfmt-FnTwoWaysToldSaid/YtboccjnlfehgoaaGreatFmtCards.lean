/-
  DERIVED. GIVEN WITH THE SEED: THE CARDS: each row of YtboccjnlfehgoaaGreatFmtRows.lean that lists a variable, with what it lists TIED to the program's text (the seventh form; the later family's looks); each row that meets fmt, with fmt's text TOLD by the authors' own Lean function (tested against real Go, not proved from fmt's source: count such statements apart). THE CARD IS WHAT COUNTS. Prove the row's statement (the work); the ties are given (YtboccjnlfehgoaaGreatFmtTie.lean); close each card by the builder's one call (the guide's Derived/Test/ToyasCard.lean, 'card_holds'). Laid BY PROGRAM, IN A SANDBOX (cutbox-door.mjs). By AI agents, Wed Nov 11 2026. No macro, syntax, notation, axiom, sorry.
-/
import Derived.Test.YtboccjnlfehgoaaGreatFmtRows
import GoSem.ClaimSeven
namespace Go.Proofs.YtboccjnlfehgoaaGreatFmt
namespace Rows

/-- THE TOLD CARD OF 'laws.FnTwoWays'. -/
def fnTwoWaysCard : Claim7 := { stood := { row := fnTwoWaysRow, standIns := [], harness := (true, "d6d59dc026a727e01eda6791e69dd5f12441f1e98d9c186501415a1f82f93cd7"), looks := false }, told := true, goes := false }
def FnTwoWaysToldSaid : Prop := Claim7.holds Tryz.pinned (.plain (OpenSpec.ofChange fnTwoWaysSpec)) fnTwoWaysCard
/-- ITS FALSE NEIGHBOUR. Refute it at one input. -/
def FnTwoWaysToldWrongFalsely : Prop := Claim7.holds Tryz.pinned (.plain (OpenSpec.ofChange fnTwoWaysWrong)) fnTwoWaysCard

/-- THE TOLD AND TIED CARD OF 'laws.FnTextOf'. -/
def fnTextOfCard : Claim7 := { stood := { row := fnTextOfRow, standIns := [], harness := (true, "d6d59dc026a727e01eda6791e69dd5f12441f1e98d9c186501415a1f82f93cd7"), looks := false }, told := true, laidByText := true, laidKinds := [.data, .data, .data], laidTests := true, laidLooks := .later, goes := false }
def FnTextOfToldSaid : Prop := Claim7.holds Tryz.pinned (.plain (OpenSpec.ofChange fnTextOfSpec)) fnTextOfCard
/-- ITS FALSE NEIGHBOUR. Refute it at one input. -/
def FnTextOfToldWrongFalsely : Prop := Claim7.holds Tryz.pinned (.plain (OpenSpec.ofChange fnTextOfWrong)) fnTextOfCard
end Rows
end Go.Proofs.YtboccjnlfehgoaaGreatFmt
