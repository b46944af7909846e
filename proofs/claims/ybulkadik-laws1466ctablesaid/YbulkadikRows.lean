/-
  No cell of these rows narrows 'for every input' (looked for: loops, veiled, ifaces, maps, wideKeys, modest, calm, conditions, laid).
  DERIVED. THE GIVEN ROWS OF THIS SEAT. 2 by the template 'for every input the law returns true; each argument reads behind the call as it read before'; 0 by the template 'total and deterministic' (their statements: YbulkadikTotals.lean).
  GIVEN WITH THE SEED: the statements are not yours to turn. If you find one false, say at which input.
  Laid BY PROGRAM, IN A SANDBOX (cutbox-rows.mjs): the forced cells as the released guide's own fill.sh prints them over the translation e4b99dc8ddeeb1c8… (all of the seat's roots in one cut). By AI agents, Wed Nov 11 2026. No macro, syntax, notation, axiom, sorry.
-/
import Derived.Test.YbulkadikChecked
import GoSem.Claim
import GoSem.ClaimJoined
import GoSem.ClaimMapViews
import Derived.JoinedTies
import Derived.KernelRfl
namespace Go.Proofs.Ybulkadik
/- THE CELL 'sum', in the pinned program and in every row, IS THE sha256 OF THE DUMP (.gsa) THAT YbulkadikProg.lean LOADS. Nothing in Lean hashes anything: it is a label: what it is worth is what the hold of that sum in a sandbox is worth. -/
noncomputable def Yba.pinned : Pinned := { name := "ybulkadik", sum := "e4b99dc8ddeeb1c8e52ac57beb826e62a9aafd832f74ad1c2b32b8ed766fdf26", checked := Yba.checked }
namespace Rows
def none {H : Type} : Left H := { results := [], args := [] }

/-- 'outband.LawS1466CTable': WHATEVER THE INPUT: true; the input reads as it did. -/
def lawS1466CTableSpec : ChangeSpec := { name := "lawS1466CTable", fn := fun _ => fun
  | [d] => { results := [.lit (.bool true)], args := [d] }
  | _ => none }
def lawS1466CTableRow : OpenClaim := { program := "ybulkadik", sum := "e4b99dc8ddeeb1c8e52ac57beb826e62a9aafd832f74ad1c2b32b8ed766fdf26", func := "example.com/outband/outband.LawS1466CTable", spec := "lawS1466CTable", apart := false }
def LawS1466CTableSaid : Prop := lawS1466CTableRow.holds Yba.pinned (OpenSpec.ofChange lawS1466CTableSpec)

/-- ITS FALSE NEIGHBOUR: 'it returns false'. Refute it at one input. -/
def lawS1466CTableWrong : ChangeSpec := { name := "lawS1466CTable", fn := fun _ => fun
  | [d] => { results := [.lit (.bool false)], args := [d] }
  | _ => none }
def LawS1466CTableWrongFalsely : Prop := lawS1466CTableRow.holds Yba.pinned (OpenSpec.ofChange lawS1466CTableWrong)

/-- 'outband.LawS1466CPeer': WHATEVER THE INPUT: true; the input reads as it did. -/
def lawS1466CPeerSpec : ChangeSpec := { name := "lawS1466CPeer", fn := fun _ => fun
  | [d] => { results := [.lit (.bool true)], args := [d] }
  | _ => none }
def lawS1466CPeerRow : OpenClaim := { program := "ybulkadik", sum := "e4b99dc8ddeeb1c8e52ac57beb826e62a9aafd832f74ad1c2b32b8ed766fdf26", func := "example.com/outband/outband.LawS1466CPeer", spec := "lawS1466CPeer", apart := false }
def LawS1466CPeerSaid : Prop := lawS1466CPeerRow.holds Yba.pinned (OpenSpec.ofChange lawS1466CPeerSpec)

/-- ITS FALSE NEIGHBOUR: 'it returns false'. Refute it at one input. -/
def lawS1466CPeerWrong : ChangeSpec := { name := "lawS1466CPeer", fn := fun _ => fun
  | [d] => { results := [.lit (.bool false)], args := [d] }
  | _ => none }
def LawS1466CPeerWrongFalsely : Prop := lawS1466CPeerRow.holds Yba.pinned (OpenSpec.ofChange lawS1466CPeerWrong)

end Rows
end Go.Proofs.Ybulkadik
