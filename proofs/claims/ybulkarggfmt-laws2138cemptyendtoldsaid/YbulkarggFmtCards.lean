/-
  DERIVED. GIVEN WITH THE SEED: THE CARDS: each row of YbulkarggFmtRows.lean that lists a variable, with what it lists TIED to the program's text (the seventh form; the later family's looks); each row that meets fmt, with fmt's text TOLD by the authors' own Lean function (tested against real Go, not proved from fmt's source: count such statements apart). THE CARD IS WHAT COUNTS. Prove the row's statement (the work); the ties are given (YbulkarggFmtTie.lean); close each card by the builder's one call (the guide's Derived/Test/ToyasCard.lean, 'card_holds'). Laid BY PROGRAM, IN A SANDBOX (cutbox-door.mjs). By AI agents, Wed Nov 11 2026. No macro, syntax, notation, axiom, sorry.
-/
import Derived.Test.YbulkarggFmtRows
import GoSem.ClaimSeven
namespace Go.Proofs.YbulkarggFmt
namespace Rows

/-- THE TOLD AND TIED CARD OF 'play.LawS2138CEmptyEnd'. -/
def lawS2138CEmptyEndCard : Claim7 := { stood := { row := lawS2138CEmptyEndRow, standIns := [], harness := (true, "35ed268bfa7b39bfcefe1f96920f3f1dad4615eebc18710bdabdd0907657096b"), looks := false }, told := true, laidByText := true, laidKinds := [.sentinel, .sentinel], laidTests := true, laidLooks := .later, goes := false }
def LawS2138CEmptyEndToldSaid : Prop := Claim7.holds Ybaf.pinned (.plain (OpenSpec.ofChange lawS2138CEmptyEndSpec)) lawS2138CEmptyEndCard
/-- ITS FALSE NEIGHBOUR. Refute it at one input. -/
def LawS2138CEmptyEndToldWrongFalsely : Prop := Claim7.holds Ybaf.pinned (.plain (OpenSpec.ofChange lawS2138CEmptyEndWrong)) lawS2138CEmptyEndCard
end Rows
end Go.Proofs.YbulkarggFmt
