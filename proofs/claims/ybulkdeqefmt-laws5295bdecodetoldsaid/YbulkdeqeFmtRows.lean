/-
  No cell of these rows narrows 'for every input' (looked for: loops, veiled, ifaces, maps, wideKeys, modest, calm, conditions, laid).
  DERIVED. THE GIVEN ROWS OF THIS SEAT. 1 by the template 'for every input the law returns true; each argument reads behind the call as it read before'; 0 by the template 'total and deterministic' (their statements: YbulkdeqeFmtTotals.lean).
  GIVEN WITH THE SEED: the statements are not yours to turn. If you find one false, say at which input.
  Laid BY PROGRAM, IN A SANDBOX (cutbox-rows.mjs): the forced cells as the released guide's own fill.sh prints them over the translation 6f438746d538d40d… (all of the seat's roots in one cut). By AI agents, Wed Nov 11 2026. No macro, syntax, notation, axiom, sorry.
-/
import Derived.Test.YbulkdeqeFmtChecked
import GoSem.Claim
import GoSem.ClaimJoined
import GoSem.ClaimMapViews
import Derived.JoinedTies
import Derived.KernelRfl
namespace Go.Proofs.YbulkdeqeFmt
/- THE CELL 'sum', in the pinned program and in every row, IS THE sha256 OF THE DUMP (.gsa) THAT YbulkdeqeFmtProg.lean LOADS. Nothing in Lean hashes anything: it is a label: what it is worth is what the hold of that sum in a sandbox is worth. -/
noncomputable def Ybaf.pinned : Pinned := { name := "ybulkdeqefmt", sum := "6f438746d538d40d1602af13c77d92ae88070a14da1c78d56c5d409f466c6b02", checked := Ybaf.checked }
namespace Rows
def none {H : Type} : Left H := { results := [], args := [] }

/-- 'kontext.LawS5295BDecode': WHATEVER THE INPUT: true; the input reads as it did. -/
def lawS5295BDecodeSpec : ChangeSpec := { name := "lawS5295BDecode", fn := fun _ => fun
  | [d1, d2] => { results := [.lit (.bool true)], args := [d1, d2] }
  | _ => none }
def lawS5295BDecodeRow : OpenClaim := { program := "ybulkdeqefmt", sum := "6f438746d538d40d1602af13c77d92ae88070a14da1c78d56c5d409f466c6b02", func := "example.com/kontext/kontext.LawS5295BDecode", spec := "lawS5295BDecode", stops := ["fmt.errorf"], inPlace := ["fmt.errorf"], apart := false }
/-- NO THEOREM (fmt's text is open here; it may be false): for the released tool's asking of the row's closed facts alone. THE STATEMENT IS 'LawS5295BDecodeToldSaid' (YbulkdeqeFmtCards.lean). -/
def LawS5295BDecodeFormAsk : Prop := lawS5295BDecodeRow.holds Ybaf.pinned (OpenSpec.ofChange lawS5295BDecodeSpec)

/-- ITS FALSE NEIGHBOUR: 'it returns false'. Refute it at one input. -/
def lawS5295BDecodeWrong : ChangeSpec := { name := "lawS5295BDecode", fn := fun _ => fun
  | [d1, d2] => { results := [.lit (.bool false)], args := [d1, d2] }
  | _ => none }
def LawS5295BDecodeWrongFormAsk : Prop := lawS5295BDecodeRow.holds Ybaf.pinned (OpenSpec.ofChange lawS5295BDecodeWrong)

end Rows
end Go.Proofs.YbulkdeqeFmt
