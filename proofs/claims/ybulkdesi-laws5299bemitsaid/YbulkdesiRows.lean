/-
  No cell of these rows narrows 'for every input' (looked for: loops, veiled, ifaces, maps, wideKeys, modest, calm, conditions, laid).
  DERIVED. THE GIVEN ROWS OF THIS SEAT. 1 by the template 'for every input the law returns true; each argument reads behind the call as it read before'; 0 by the template 'total and deterministic' (their statements: YbulkdesiTotals.lean).
  GIVEN WITH THE SEED: the statements are not yours to turn. If you find one false, say at which input.
  Laid BY PROGRAM, IN A SANDBOX (cutbox-rows.mjs): the forced cells as the released guide's own fill.sh prints them over the translation 98488db1a2f62d41… (all of the seat's roots in one cut). By AI agents, Wed Nov 11 2026. No macro, syntax, notation, axiom, sorry.
-/
import Derived.Test.YbulkdesiChecked
import GoSem.Claim
import GoSem.ClaimJoined
import GoSem.ClaimMapViews
import Derived.JoinedTies
import Derived.KernelRfl
namespace Go.Proofs.Ybulkdesi
/- THE CELL 'sum', in the pinned program and in every row, IS THE sha256 OF THE DUMP (.gsa) THAT YbulkdesiProg.lean LOADS. Nothing in Lean hashes anything: it is a label: what it is worth is what the hold of that sum in a sandbox is worth. -/
noncomputable def Yba.pinned : Pinned := { name := "ybulkdesi", sum := "98488db1a2f62d416cfeb3e2f736bbc8996fd489afbfc6704359f215ee538a98", checked := Yba.checked }
namespace Rows
def none {H : Type} : Left H := { results := [], args := [] }

/-- 'flowrune.LawS5299BEmit': WHATEVER THE INPUT: true; the input reads as it did. -/
def lawS5299BEmitSpec : ChangeSpec := { name := "lawS5299BEmit", fn := fun _ => fun
  | [d1, d2, d3] => { results := [.lit (.bool true)], args := [d1, d2, d3] }
  | _ => none }
def lawS5299BEmitRow : OpenClaim := { program := "ybulkdesi", sum := "98488db1a2f62d416cfeb3e2f736bbc8996fd489afbfc6704359f215ee538a98", func := "example.com/flowrune/flowrune.LawS5299BEmit", spec := "lawS5299BEmit", apart := false }
def LawS5299BEmitSaid : Prop := lawS5299BEmitRow.holds Yba.pinned (OpenSpec.ofChange lawS5299BEmitSpec)

/-- ITS FALSE NEIGHBOUR: 'it returns false'. Refute it at one input. -/
def lawS5299BEmitWrong : ChangeSpec := { name := "lawS5299BEmit", fn := fun _ => fun
  | [d1, d2, d3] => { results := [.lit (.bool false)], args := [d1, d2, d3] }
  | _ => none }
def LawS5299BEmitWrongFalsely : Prop := lawS5299BEmitRow.holds Yba.pinned (OpenSpec.ofChange lawS5299BEmitWrong)

end Rows
end Go.Proofs.Ybulkdesi
