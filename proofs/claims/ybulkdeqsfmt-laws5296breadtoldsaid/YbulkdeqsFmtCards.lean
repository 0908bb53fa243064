/-
  DERIVED. GIVEN WITH THE SEED: THE CARDS: each row of YbulkdeqsFmtRows.lean that lists a variable, with what it lists TIED to the program's text (the seventh form; the later family's looks); each row that meets fmt, with fmt's text TOLD by the authors' own Lean function (tested against real Go, not proved from fmt's source: count such statements apart). THE CARD IS WHAT COUNTS. Prove the row's statement (the work); the ties are given (YbulkdeqsFmtTie.lean); close each card by the builder's one call (the guide's Derived/Test/ToyasCard.lean, 'card_holds'). Laid BY PROGRAM, IN A SANDBOX (cutbox-door.mjs). By AI agents, Wed Nov 11 2026. No macro, syntax, notation, axiom, sorry.
-/
import Derived.Test.YbulkdeqsFmtRows
import GoSem.ClaimSeven
namespace Go.Proofs.YbulkdeqsFmt
namespace Rows

/-- THE TOLD AND TIED CARD OF 'store.LawS5296BRead'. -/
def lawS5296BReadCard : Claim7 := { stood := { row := lawS5296BReadRow, standIns := [], harness := (true, "438a1b6a9d2aa975d0fdf26dec60b31fa867611e5e03c781dbfa9442d02d6d37"), looks := true }, told := true, laidByText := true, laidKinds := [.sentinel, .sentinel, .sentinel], laidTests := true, laidLooks := .later, goes := false }
def LawS5296BReadToldSaid : Prop := Claim7.holds Ybaf.pinned (.plain (OpenSpec.ofChange lawS5296BReadSpec)) lawS5296BReadCard
/-- ITS FALSE NEIGHBOUR. Refute it at one input. -/
def LawS5296BReadToldWrongFalsely : Prop := Claim7.holds Ybaf.pinned (.plain (OpenSpec.ofChange lawS5296BReadWrong)) lawS5296BReadCard
end Rows
end Go.Proofs.YbulkdeqsFmt
