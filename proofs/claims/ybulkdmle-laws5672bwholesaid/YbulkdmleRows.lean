/-
  No cell of these rows narrows 'for every input' (looked for: loops, veiled, ifaces, maps, wideKeys, modest, calm, conditions, laid).
  DERIVED. THE GIVEN ROWS OF THIS SEAT. 2 by the template 'for every input the law returns true; each argument reads behind the call as it read before'; 0 by the template 'total and deterministic' (their statements: YbulkdmleTotals.lean).
  GIVEN WITH THE SEED: the statements are not yours to turn. If you find one false, say at which input.
  Laid BY PROGRAM, IN A SANDBOX (cutbox-rows.mjs): the forced cells as the released guide's own fill.sh prints them over the translation f3e09a2a39ca0d17… (all of the seat's roots in one cut). By AI agents, Wed Nov 11 2026. No macro, syntax, notation, axiom, sorry.
-/
import Derived.Test.YbulkdmleChecked
import GoSem.Claim
import GoSem.ClaimJoined
import GoSem.ClaimMapViews
import Derived.JoinedTies
import Derived.KernelRfl
namespace Go.Proofs.Ybulkdmle
/- THE CELL 'sum', in the pinned program and in every row, IS THE sha256 OF THE DUMP (.gsa) THAT YbulkdmleProg.lean LOADS. Nothing in Lean hashes anything: it is a label: what it is worth is what the hold of that sum in a sandbox is worth. -/
noncomputable def Yba.pinned : Pinned := { name := "ybulkdmle", sum := "f3e09a2a39ca0d179129eac7cc01f797def8da9db3ad68630991eb0bdc47327a", checked := Yba.checked }
namespace Rows
def none {H : Type} : Left H := { results := [], args := [] }

/-- 'bayescast.LawS5672AWhole': WHATEVER THE INPUT: true; the input reads as it did. -/
def lawS5672AWholeSpec : ChangeSpec := { name := "lawS5672AWhole", fn := fun _ => fun
  | [d1, d2, d3] => { results := [.lit (.bool true)], args := [d1, d2, d3] }
  | _ => none }
def lawS5672AWholeRow : OpenClaim := { program := "ybulkdmle", sum := "f3e09a2a39ca0d179129eac7cc01f797def8da9db3ad68630991eb0bdc47327a", func := "example.com/bayescast/bayescast.LawS5672AWhole", spec := "lawS5672AWhole", apart := false }
def LawS5672AWholeSaid : Prop := lawS5672AWholeRow.holds Yba.pinned (OpenSpec.ofChange lawS5672AWholeSpec)

/-- ITS FALSE NEIGHBOUR: 'it returns false'. Refute it at one input. -/
def lawS5672AWholeWrong : ChangeSpec := { name := "lawS5672AWhole", fn := fun _ => fun
  | [d1, d2, d3] => { results := [.lit (.bool false)], args := [d1, d2, d3] }
  | _ => none }
def LawS5672AWholeWrongFalsely : Prop := lawS5672AWholeRow.holds Yba.pinned (OpenSpec.ofChange lawS5672AWholeWrong)

/-- 'bayescast.LawS5672BWhole': WHATEVER THE INPUT: true; the input reads as it did. -/
def lawS5672BWholeSpec : ChangeSpec := { name := "lawS5672BWhole", fn := fun _ => fun
  | [d1, d2, d3, d4, d5, d6, d7, d8] => { results := [.lit (.bool true)], args := [d1, d2, d3, d4, d5, d6, d7, d8] }
  | _ => none }
def lawS5672BWholeRow : OpenClaim := { program := "ybulkdmle", sum := "f3e09a2a39ca0d179129eac7cc01f797def8da9db3ad68630991eb0bdc47327a", func := "example.com/bayescast/bayescast.LawS5672BWhole", spec := "lawS5672BWhole", inPlace := ["sync/atomic.StorePointer", "sync/atomic.LoadPointer", "math.Float64bits"], apart := false }
def LawS5672BWholeSaid : Prop := lawS5672BWholeRow.holds Yba.pinned (OpenSpec.ofChange lawS5672BWholeSpec)

/-- ITS FALSE NEIGHBOUR: 'it returns false'. Refute it at one input. -/
def lawS5672BWholeWrong : ChangeSpec := { name := "lawS5672BWhole", fn := fun _ => fun
  | [d1, d2, d3, d4, d5, d6, d7, d8] => { results := [.lit (.bool false)], args := [d1, d2, d3, d4, d5, d6, d7, d8] }
  | _ => none }
def LawS5672BWholeWrongFalsely : Prop := lawS5672BWholeRow.holds Yba.pinned (OpenSpec.ofChange lawS5672BWholeWrong)

end Rows
end Go.Proofs.Ybulkdmle
