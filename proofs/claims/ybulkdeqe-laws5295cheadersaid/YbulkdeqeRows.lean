/-
  No cell of these rows narrows 'for every input' (looked for: loops, veiled, ifaces, maps, wideKeys, modest, calm, conditions, laid).
  DERIVED. THE GIVEN ROWS OF THIS SEAT. 1 by the template 'for every input the law returns true; each argument reads behind the call as it read before'; 0 by the template 'total and deterministic' (their statements: YbulkdeqeTotals.lean).
  GIVEN WITH THE SEED: the statements are not yours to turn. If you find one false, say at which input.
  Laid BY PROGRAM, IN A SANDBOX (cutbox-rows.mjs): the forced cells as the released guide's own fill.sh prints them over the translation 07485599d9dc4092… (all of the seat's roots in one cut). By AI agents, Wed Nov 11 2026. No macro, syntax, notation, axiom, sorry.
-/
import Derived.Test.YbulkdeqeChecked
import GoSem.Claim
import GoSem.ClaimJoined
import GoSem.ClaimMapViews
import Derived.JoinedTies
import Derived.KernelRfl
namespace Go.Proofs.Ybulkdeqe
/- THE CELL 'sum', in the pinned program and in every row, IS THE sha256 OF THE DUMP (.gsa) THAT YbulkdeqeProg.lean LOADS. Nothing in Lean hashes anything: it is a label: what it is worth is what the hold of that sum in a sandbox is worth. -/
noncomputable def Yba.pinned : Pinned := { name := "ybulkdeqe", sum := "07485599d9dc409222039838fe9d04bd7d7a5a4cccc076e6a75b7618a5727a45", checked := Yba.checked }
namespace Rows
def none {H : Type} : Left H := { results := [], args := [] }

/-- 'pcap.LawS5295CHeader': WHATEVER THE INPUT: true; the input reads as it did. -/
def lawS5295CHeaderSpec : ChangeSpec := { name := "lawS5295CHeader", fn := fun _ => fun
  | [d1, d2] => { results := [.lit (.bool true)], args := [d1, d2] }
  | _ => none }
def lawS5295CHeaderRow : OpenClaim := { program := "ybulkdeqe", sum := "07485599d9dc409222039838fe9d04bd7d7a5a4cccc076e6a75b7618a5727a45", func := "example.com/kontext/kontext/internal/pcap.LawS5295CHeader", spec := "lawS5295CHeader", unfollowed := true, recurses := true, named := ["encoding/binary.LittleEndian"], apart := false }
def LawS5295CHeaderSaid : Prop := lawS5295CHeaderRow.holds Yba.pinned (OpenSpec.ofChange lawS5295CHeaderSpec)

/-- ITS FALSE NEIGHBOUR: 'it returns false'. Refute it at one input. -/
def lawS5295CHeaderWrong : ChangeSpec := { name := "lawS5295CHeader", fn := fun _ => fun
  | [d1, d2] => { results := [.lit (.bool false)], args := [d1, d2] }
  | _ => none }
def LawS5295CHeaderWrongFalsely : Prop := lawS5295CHeaderRow.holds Yba.pinned (OpenSpec.ofChange lawS5295CHeaderWrong)

end Rows
end Go.Proofs.Ybulkdeqe
