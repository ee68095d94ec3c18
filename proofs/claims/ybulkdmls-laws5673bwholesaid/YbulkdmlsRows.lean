/-
  No cell of these rows narrows 'for every input' (looked for: loops, veiled, ifaces, maps, wideKeys, modest, calm, conditions, laid).
  DERIVED. THE GIVEN ROWS OF THIS SEAT. 1 by the template 'for every input the law returns true; each argument reads behind the call as it read before'; 0 by the template 'total and deterministic' (their statements: YbulkdmlsTotals.lean).
  GIVEN WITH THE SEED: the statements are not yours to turn. If you find one false, say at which input.
  Laid BY PROGRAM, IN A SANDBOX (cutbox-rows.mjs): the forced cells as the released guide's own fill.sh prints them over the translation fba8182ea03ac303… (all of the seat's roots in one cut). By AI agents, Wed Nov 11 2026. No macro, syntax, notation, axiom, sorry.
-/
import Derived.Test.YbulkdmlsChecked
import GoSem.Claim
import GoSem.ClaimJoined
import GoSem.ClaimMapViews
import Derived.JoinedTies
import Derived.KernelRfl
namespace Go.Proofs.Ybulkdmls
/- THE CELL 'sum', in the pinned program and in every row, IS THE sha256 OF THE DUMP (.gsa) THAT YbulkdmlsProg.lean LOADS. Nothing in Lean hashes anything: it is a label: what it is worth is what the hold of that sum in a sandbox is worth. -/
noncomputable def Yba.pinned : Pinned := { name := "ybulkdmls", sum := "fba8182ea03ac30378523f274a35914e22bcf241bef865841db09d495d0cc96b", checked := Yba.checked }
namespace Rows
def none {H : Type} : Left H := { results := [], args := [] }

/-- 'scenario.LawS5673BWhole': WHATEVER THE INPUT: true; the input reads as it did. -/
def lawS5673BWholeSpec : ChangeSpec := { name := "lawS5673BWhole", fn := fun _ => fun
  | [d1, d2, d3, d4, d5, d6] => { results := [.lit (.bool true)], args := [d1, d2, d3, d4, d5, d6] }
  | _ => none }
def lawS5673BWholeRow : OpenClaim := { program := "ybulkdmls", sum := "fba8182ea03ac30378523f274a35914e22bcf241bef865841db09d495d0cc96b", func := "example.com/gapwise/gapwise/internal/scenario.LawS5673BWhole", spec := "lawS5673BWhole", apart := false }
def LawS5673BWholeSaid : Prop := lawS5673BWholeRow.holds Yba.pinned (OpenSpec.ofChange lawS5673BWholeSpec)

/-- ITS FALSE NEIGHBOUR: 'it returns false'. Refute it at one input. -/
def lawS5673BWholeWrong : ChangeSpec := { name := "lawS5673BWhole", fn := fun _ => fun
  | [d1, d2, d3, d4, d5, d6] => { results := [.lit (.bool false)], args := [d1, d2, d3, d4, d5, d6] }
  | _ => none }
def LawS5673BWholeWrongFalsely : Prop := lawS5673BWholeRow.holds Yba.pinned (OpenSpec.ofChange lawS5673BWholeWrong)

end Rows
end Go.Proofs.Ybulkdmls
