/-
  No cell of these rows narrows 'for every input' (looked for: loops, veiled, ifaces, maps, wideKeys, modest, calm, conditions, laid).
  DERIVED. THE GIVEN ROWS OF THIS SEAT. 1 by the template 'for every input the law returns true; each argument reads behind the call as it read before'; 0 by the template 'total and deterministic' (their statements: YbulkderuTotals.lean).
  GIVEN WITH THE SEED: the statements are not yours to turn. If you find one false, say at which input.
  Laid BY PROGRAM, IN A SANDBOX (cutbox-rows.mjs): the forced cells as the released guide's own fill.sh prints them over the translation 51552471311cebc4… (all of the seat's roots in one cut). By AI agents, Wed Nov 11 2026. No macro, syntax, notation, axiom, sorry.
-/
import Derived.Test.YbulkderuChecked
import GoSem.Claim
import GoSem.ClaimJoined
import GoSem.ClaimMapViews
import Derived.JoinedTies
import Derived.KernelRfl
namespace Go.Proofs.Ybulkderu
/- THE CELL 'sum', in the pinned program and in every row, IS THE sha256 OF THE DUMP (.gsa) THAT YbulkderuProg.lean LOADS. Nothing in Lean hashes anything: it is a label: what it is worth is what the hold of that sum in a sandbox is worth. -/
noncomputable def Yba.pinned : Pinned := { name := "ybulkderu", sum := "51552471311cebc4689fe7adb74eeee85c351755cb50d99f455b3a42110c9344", checked := Yba.checked }
namespace Rows
def none {H : Type} : Left H := { results := [], args := [] }

/-- 'procession.LawS5298CRearm': WHATEVER THE INPUT: true; the input reads as it did. -/
def lawS5298CRearmSpec : ChangeSpec := { name := "lawS5298CRearm", fn := fun _ => fun
  | [d1, d2, d3, d4] => { results := [.lit (.bool true)], args := [d1, d2, d3, d4] }
  | _ => none }
def lawS5298CRearmRow : OpenClaim := { program := "ybulkderu", sum := "51552471311cebc4689fe7adb74eeee85c351755cb50d99f455b3a42110c9344", func := "example.com/procession/procession.LawS5298CRearm", spec := "lawS5298CRearm", unfollowed := true, recurses := true, plainKeys := false, apart := false }
def LawS5298CRearmSaid : Prop := lawS5298CRearmRow.holds Yba.pinned (OpenSpec.ofChange lawS5298CRearmSpec)

/-- ITS FALSE NEIGHBOUR: 'it returns false'. Refute it at one input. -/
def lawS5298CRearmWrong : ChangeSpec := { name := "lawS5298CRearm", fn := fun _ => fun
  | [d1, d2, d3, d4] => { results := [.lit (.bool false)], args := [d1, d2, d3, d4] }
  | _ => none }
def LawS5298CRearmWrongFalsely : Prop := lawS5298CRearmRow.holds Yba.pinned (OpenSpec.ofChange lawS5298CRearmWrong)

end Rows
end Go.Proofs.Ybulkderu
