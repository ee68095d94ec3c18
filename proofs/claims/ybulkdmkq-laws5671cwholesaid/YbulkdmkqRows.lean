/-
  No cell of these rows narrows 'for every input' (looked for: loops, veiled, ifaces, maps, wideKeys, modest, calm, conditions, laid).
  DERIVED. THE GIVEN ROWS OF THIS SEAT. 2 by the template 'for every input the law returns true; each argument reads behind the call as it read before'; 0 by the template 'total and deterministic' (their statements: YbulkdmkqTotals.lean).
  GIVEN WITH THE SEED: the statements are not yours to turn. If you find one false, say at which input.
  Laid BY PROGRAM, IN A SANDBOX (cutbox-rows.mjs): the forced cells as the released guide's own fill.sh prints them over the translation efae9553c6eaa1b1… (all of the seat's roots in one cut). By AI agents, Wed Nov 11 2026. No macro, syntax, notation, axiom, sorry.
-/
import Derived.Test.YbulkdmkqChecked
import GoSem.Claim
import GoSem.ClaimJoined
import GoSem.ClaimMapViews
import Derived.JoinedTies
import Derived.KernelRfl
namespace Go.Proofs.Ybulkdmkq
/- THE CELL 'sum', in the pinned program and in every row, IS THE sha256 OF THE DUMP (.gsa) THAT YbulkdmkqProg.lean LOADS. Nothing in Lean hashes anything: it is a label: what it is worth is what the hold of that sum in a sandbox is worth. -/
noncomputable def Yba.pinned : Pinned := { name := "ybulkdmkq", sum := "efae9553c6eaa1b13bd5e1a26f113fdf8d392f49c91bb9911e491cddd0c7c880", checked := Yba.checked }
namespace Rows
def none {H : Type} : Left H := { results := [], args := [] }

/-- 'trace.LawS5671BWhole': WHATEVER THE INPUT: true; the input reads as it did. -/
def lawS5671BWholeSpec : ChangeSpec := { name := "lawS5671BWhole", fn := fun _ => fun
  | [d] => { results := [.lit (.bool true)], args := [d] }
  | _ => none }
def lawS5671BWholeRow : OpenClaim := { program := "ybulkdmkq", sum := "efae9553c6eaa1b13bd5e1a26f113fdf8d392f49c91bb9911e491cddd0c7c880", func := "example.com/antecede/antecede/internal/trace.LawS5671BWhole", spec := "lawS5671BWhole", unfollowed := true, recurses := true, apart := false }
def LawS5671BWholeSaid : Prop := lawS5671BWholeRow.holds Yba.pinned (OpenSpec.ofChange lawS5671BWholeSpec)

/-- ITS FALSE NEIGHBOUR: 'it returns false'. Refute it at one input. -/
def lawS5671BWholeWrong : ChangeSpec := { name := "lawS5671BWhole", fn := fun _ => fun
  | [d] => { results := [.lit (.bool false)], args := [d] }
  | _ => none }
def LawS5671BWholeWrongFalsely : Prop := lawS5671BWholeRow.holds Yba.pinned (OpenSpec.ofChange lawS5671BWholeWrong)

/-- 'trace.LawS5671CWhole': WHATEVER THE INPUT: true; the input reads as it did. -/
def lawS5671CWholeSpec : ChangeSpec := { name := "lawS5671CWhole", fn := fun _ => fun
  | [d1, d2] => { results := [.lit (.bool true)], args := [d1, d2] }
  | _ => none }
def lawS5671CWholeRow : OpenClaim := { program := "ybulkdmkq", sum := "efae9553c6eaa1b13bd5e1a26f113fdf8d392f49c91bb9911e491cddd0c7c880", func := "example.com/antecede/antecede/internal/trace.LawS5671CWhole", spec := "lawS5671CWhole", unfollowed := true, recurses := true, apart := false }
def LawS5671CWholeSaid : Prop := lawS5671CWholeRow.holds Yba.pinned (OpenSpec.ofChange lawS5671CWholeSpec)

/-- ITS FALSE NEIGHBOUR: 'it returns false'. Refute it at one input. -/
def lawS5671CWholeWrong : ChangeSpec := { name := "lawS5671CWhole", fn := fun _ => fun
  | [d1, d2] => { results := [.lit (.bool false)], args := [d1, d2] }
  | _ => none }
def LawS5671CWholeWrongFalsely : Prop := lawS5671CWholeRow.holds Yba.pinned (OpenSpec.ofChange lawS5671CWholeWrong)

end Rows
end Go.Proofs.Ybulkdmkq
