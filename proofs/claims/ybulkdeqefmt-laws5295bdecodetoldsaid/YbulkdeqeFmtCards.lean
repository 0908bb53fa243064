/-
  DERIVED. GIVEN WITH THE SEED: THE CARDS: each row of YbulkdeqeFmtRows.lean that lists a variable, with what it lists TIED to the program's text (the seventh form; the later family's looks); each row that meets fmt, with fmt's text TOLD by the authors' own Lean function (tested against real Go, not proved from fmt's source: count such statements apart). THE CARD IS WHAT COUNTS. Prove the row's statement (the work); the ties are given (YbulkdeqeFmtTie.lean); close each card by the builder's one call (the guide's Derived/Test/ToyasCard.lean, 'card_holds'). Laid BY PROGRAM, IN A SANDBOX (cutbox-door.mjs). By AI agents, Wed Nov 11 2026. No macro, syntax, notation, axiom, sorry.
-/
import Derived.Test.YbulkdeqeFmtRows
import GoSem.ClaimSeven
namespace Go.Proofs.YbulkdeqeFmt
namespace Rows

/-- THE TOLD CARD OF 'kontext.LawS5295BDecode'. -/
def lawS5295BDecodeCard : Claim7 := { stood := { row := lawS5295BDecodeRow, standIns := [], harness := (true, "291aeafe507addebcdae993036611096317fcb36403e8dbb0c7e8e6311a6066c"), looks := false }, told := true, goes := false }
def LawS5295BDecodeToldSaid : Prop := Claim7.holds Ybaf.pinned (.plain (OpenSpec.ofChange lawS5295BDecodeSpec)) lawS5295BDecodeCard
/-- ITS FALSE NEIGHBOUR. Refute it at one input. -/
def LawS5295BDecodeToldWrongFalsely : Prop := Claim7.holds Ybaf.pinned (.plain (OpenSpec.ofChange lawS5295BDecodeWrong)) lawS5295BDecodeCard
end Rows
end Go.Proofs.YbulkdeqeFmt
