/-
  DERIVED. GIVEN WITH THE SEED: THE CARDS: each row of YbulkbmsFmtRows.lean that lists a variable, with what it lists TIED to the program's text (the seventh form; the later family's looks); each row that meets fmt, with fmt's text TOLD by the authors' own Lean function (tested against real Go, not proved from fmt's source: count such statements apart). THE CARD IS WHAT COUNTS. Prove the row's statement (the work); the ties are given (YbulkbmsFmtTie.lean); close each card by the builder's one call (the guide's Derived/Test/ToyasCard.lean, 'card_holds'). Laid BY PROGRAM, IN A SANDBOX (cutbox-door.mjs). By AI agents, Wed Nov 11 2026. No macro, syntax, notation, axiom, sorry.
-/
import Derived.Test.YbulkbmsFmtRows
import GoSem.ClaimSeven
namespace Go.Proofs.YbulkbmsFmt
namespace Rows

/-- THE TOLD CARD OF 'chordal.LawS0122BModel'. -/
def lawS0122BModelCard : Claim7 := { stood := { row := lawS0122BModelRow, standIns := [], harness := (true, "b880c337030b6c2f34661ec6e8870882f0a35e6e824d58b0ad825736b6772863"), looks := false }, told := true, goes := false }
def LawS0122BModelToldSaid : Prop := Claim7.holds Ybaf.pinned (.plain (OpenSpec.ofChange lawS0122BModelSpec)) lawS0122BModelCard
/-- ITS FALSE NEIGHBOUR. Refute it at one input. -/
def LawS0122BModelToldWrongFalsely : Prop := Claim7.holds Ybaf.pinned (.plain (OpenSpec.ofChange lawS0122BModelWrong)) lawS0122BModelCard
end Rows
end Go.Proofs.YbulkbmsFmt
