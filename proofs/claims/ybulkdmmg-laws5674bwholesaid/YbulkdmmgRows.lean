/-
  No cell of these rows narrows 'for every input' (looked for: loops, veiled, ifaces, maps, wideKeys, modest, calm, conditions, laid).
  DERIVED. THE GIVEN ROWS OF THIS SEAT. 2 by the template 'for every input the law returns true; each argument reads behind the call as it read before'; 0 by the template 'total and deterministic' (their statements: YbulkdmmgTotals.lean).
  GIVEN WITH THE SEED: the statements are not yours to turn. If you find one false, say at which input.
  Laid BY PROGRAM, IN A SANDBOX (cutbox-rows.mjs): the forced cells as the released guide's own fill.sh prints them over the translation 49f877646d6e6ea4… (all of the seat's roots in one cut). By AI agents, Wed Nov 11 2026. No macro, syntax, notation, axiom, sorry.
-/
import Derived.Test.YbulkdmmgChecked
import GoSem.Claim
import GoSem.ClaimJoined
import GoSem.ClaimMapViews
import Derived.JoinedTies
import Derived.KernelRfl
namespace Go.Proofs.Ybulkdmmg
/- THE CELL 'sum', in the pinned program and in every row, IS THE sha256 OF THE DUMP (.gsa) THAT YbulkdmmgProg.lean LOADS. Nothing in Lean hashes anything: it is a label: what it is worth is what the hold of that sum in a sandbox is worth. -/
noncomputable def Yba.pinned : Pinned := { name := "ybulkdmmg", sum := "49f877646d6e6ea48affcd7c0da9302e92c6051c7ac5ad23e5350afc3b7c27d5", checked := Yba.checked }
namespace Rows
def none {H : Type} : Left H := { results := [], args := [] }

/-- 'tamis.LawS5674BWhole': WHATEVER THE INPUT: true; the input reads as it did. -/
def lawS5674BWholeSpec : ChangeSpec := { name := "lawS5674BWhole", fn := fun _ => fun
  | [d] => { results := [.lit (.bool true)], args := [d] }
  | _ => none }
def lawS5674BWholeRow : OpenClaim := { program := "ybulkdmmg", sum := "49f877646d6e6ea48affcd7c0da9302e92c6051c7ac5ad23e5350afc3b7c27d5", func := "example.com/tamis/tamis.LawS5674BWhole", spec := "lawS5674BWhole", apart := false }
def LawS5674BWholeSaid : Prop := lawS5674BWholeRow.holds Yba.pinned (OpenSpec.ofChange lawS5674BWholeSpec)

/-- ITS FALSE NEIGHBOUR: 'it returns false'. Refute it at one input. -/
def lawS5674BWholeWrong : ChangeSpec := { name := "lawS5674BWhole", fn := fun _ => fun
  | [d] => { results := [.lit (.bool false)], args := [d] }
  | _ => none }
def LawS5674BWholeWrongFalsely : Prop := lawS5674BWholeRow.holds Yba.pinned (OpenSpec.ofChange lawS5674BWholeWrong)

/-- 'tamis.LawS5674CWhole': WHATEVER THE INPUT: true; the input reads as it did. -/
def lawS5674CWholeSpec : ChangeSpec := { name := "lawS5674CWhole", fn := fun _ => fun
  | [d1, d2, d3] => { results := [.lit (.bool true)], args := [d1, d2, d3] }
  | _ => none }
def lawS5674CWholeRow : OpenClaim := { program := "ybulkdmmg", sum := "49f877646d6e6ea48affcd7c0da9302e92c6051c7ac5ad23e5350afc3b7c27d5", func := "example.com/tamis/tamis.LawS5674CWhole", spec := "lawS5674CWhole", unfollowed := true, recurses := true, apart := false }
def LawS5674CWholeSaid : Prop := lawS5674CWholeRow.holds Yba.pinned (OpenSpec.ofChange lawS5674CWholeSpec)

/-- ITS FALSE NEIGHBOUR: 'it returns false'. Refute it at one input. -/
def lawS5674CWholeWrong : ChangeSpec := { name := "lawS5674CWhole", fn := fun _ => fun
  | [d1, d2, d3] => { results := [.lit (.bool false)], args := [d1, d2, d3] }
  | _ => none }
def LawS5674CWholeWrongFalsely : Prop := lawS5674CWholeRow.holds Yba.pinned (OpenSpec.ofChange lawS5674CWholeWrong)

end Rows
end Go.Proofs.Ybulkdmmg
