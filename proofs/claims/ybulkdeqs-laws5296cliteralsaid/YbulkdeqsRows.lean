/-
  No cell of these rows narrows 'for every input' (looked for: loops, veiled, ifaces, maps, wideKeys, modest, calm, conditions, laid).
  DERIVED. THE GIVEN ROWS OF THIS SEAT. 1 by the template 'for every input the law returns true; each argument reads behind the call as it read before'; 0 by the template 'total and deterministic' (their statements: YbulkdeqsTotals.lean).
  GIVEN WITH THE SEED: the statements are not yours to turn. If you find one false, say at which input.
  Laid BY PROGRAM, IN A SANDBOX (cutbox-rows.mjs): the forced cells as the released guide's own fill.sh prints them over the translation eac1b5dc2a37e880… (all of the seat's roots in one cut). By AI agents, Wed Nov 11 2026. No macro, syntax, notation, axiom, sorry.
-/
import Derived.Test.YbulkdeqsChecked
import GoSem.Claim
import GoSem.ClaimJoined
import GoSem.ClaimMapViews
import Derived.JoinedTies
import Derived.KernelRfl
namespace Go.Proofs.Ybulkdeqs
/- THE CELL 'sum', in the pinned program and in every row, IS THE sha256 OF THE DUMP (.gsa) THAT YbulkdeqsProg.lean LOADS. Nothing in Lean hashes anything: it is a label: what it is worth is what the hold of that sum in a sandbox is worth. -/
noncomputable def Yba.pinned : Pinned := { name := "ybulkdeqs", sum := "eac1b5dc2a37e880f639b5ce8340ac283e637374620d47979892bfe6560a6df2", checked := Yba.checked }
namespace Rows
def none {H : Type} : Left H := { results := [], args := [] }

/-- 'store.LawS5296CLiteral': WHATEVER THE INPUT: true; the input reads as it did. -/
def lawS5296CLiteralSpec : ChangeSpec := { name := "lawS5296CLiteral", fn := fun _ => fun
  | [d1, d2] => { results := [.lit (.bool true)], args := [d1, d2] }
  | _ => none }
def lawS5296CLiteralRow : OpenClaim := { program := "ybulkdeqs", sum := "eac1b5dc2a37e880f639b5ce8340ac283e637374620d47979892bfe6560a6df2", func := "example.com/coarsegrain/coarsegrain/store.LawS5296CLiteral", spec := "lawS5296CLiteral", apart := false }
def LawS5296CLiteralSaid : Prop := lawS5296CLiteralRow.holds Yba.pinned (OpenSpec.ofChange lawS5296CLiteralSpec)

/-- ITS FALSE NEIGHBOUR: 'it returns false'. Refute it at one input. -/
def lawS5296CLiteralWrong : ChangeSpec := { name := "lawS5296CLiteral", fn := fun _ => fun
  | [d1, d2] => { results := [.lit (.bool false)], args := [d1, d2] }
  | _ => none }
def LawS5296CLiteralWrongFalsely : Prop := lawS5296CLiteralRow.holds Yba.pinned (OpenSpec.ofChange lawS5296CLiteralWrong)

end Rows
end Go.Proofs.Ybulkdeqs
