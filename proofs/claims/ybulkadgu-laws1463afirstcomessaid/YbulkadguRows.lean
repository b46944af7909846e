/-
  No cell of these rows narrows 'for every input' (looked for: loops, veiled, ifaces, maps, wideKeys, modest, calm, conditions, laid).
  DERIVED. THE GIVEN ROWS OF THIS SEAT. 2 by the template 'for every input the law returns true; each argument reads behind the call as it read before'; 0 by the template 'total and deterministic' (their statements: YbulkadguTotals.lean).
  GIVEN WITH THE SEED: the statements are not yours to turn. If you find one false, say at which input.
  Laid BY PROGRAM, IN A SANDBOX (cutbox-rows.mjs): the forced cells as the released guide's own fill.sh prints them over the translation 20e2e35534f0c3fe… (all of the seat's roots in one cut). By AI agents, Wed Nov 11 2026. No macro, syntax, notation, axiom, sorry.
-/
import Derived.Test.YbulkadguChecked
import GoSem.Claim
import GoSem.ClaimJoined
import GoSem.ClaimMapViews
import Derived.JoinedTies
import Derived.KernelRfl
namespace Go.Proofs.Ybulkadgu
/- THE CELL 'sum', in the pinned program and in every row, IS THE sha256 OF THE DUMP (.gsa) THAT YbulkadguProg.lean LOADS. Nothing in Lean hashes anything: it is a label: what it is worth is what the hold of that sum in a sandbox is worth. -/
noncomputable def Yba.pinned : Pinned := { name := "ybulkadgu", sum := "20e2e35534f0c3fe20b55b2c2588b2add2424f5087c1641b054948bc2a1c8967", checked := Yba.checked }
namespace Rows
def none {H : Type} : Left H := { results := [], args := [] }

/-- 'httpapi.LawS1463AFirstComes': WHATEVER THE INPUT: true; the input reads as it did. -/
def lawS1463AFirstComesSpec : ChangeSpec := { name := "lawS1463AFirstComes", fn := fun _ => fun
  | [d] => { results := [.lit (.bool true)], args := [d] }
  | _ => none }
def lawS1463AFirstComesRow : OpenClaim := { program := "ybulkadgu", sum := "20e2e35534f0c3fe20b55b2c2588b2add2424f5087c1641b054948bc2a1c8967", func := "example.com/hourgrid/hourgrid/pkg/httpapi.LawS1463AFirstComes", spec := "lawS1463AFirstComes", apart := false }
def LawS1463AFirstComesSaid : Prop := lawS1463AFirstComesRow.holds Yba.pinned (OpenSpec.ofChange lawS1463AFirstComesSpec)

/-- ITS FALSE NEIGHBOUR: 'it returns false'. Refute it at one input. -/
def lawS1463AFirstComesWrong : ChangeSpec := { name := "lawS1463AFirstComes", fn := fun _ => fun
  | [d] => { results := [.lit (.bool false)], args := [d] }
  | _ => none }
def LawS1463AFirstComesWrongFalsely : Prop := lawS1463AFirstComesRow.holds Yba.pinned (OpenSpec.ofChange lawS1463AFirstComesWrong)

/-- 'httpapi.LawS1463AIdempotent': WHATEVER THE INPUT: true; the input reads as it did. -/
def lawS1463AIdempotentSpec : ChangeSpec := { name := "lawS1463AIdempotent", fn := fun _ => fun
  | [d] => { results := [.lit (.bool true)], args := [d] }
  | _ => none }
def lawS1463AIdempotentRow : OpenClaim := { program := "ybulkadgu", sum := "20e2e35534f0c3fe20b55b2c2588b2add2424f5087c1641b054948bc2a1c8967", func := "example.com/hourgrid/hourgrid/pkg/httpapi.LawS1463AIdempotent", spec := "lawS1463AIdempotent", apart := false }
def LawS1463AIdempotentSaid : Prop := lawS1463AIdempotentRow.holds Yba.pinned (OpenSpec.ofChange lawS1463AIdempotentSpec)

/-- ITS FALSE NEIGHBOUR: 'it returns false'. Refute it at one input. -/
def lawS1463AIdempotentWrong : ChangeSpec := { name := "lawS1463AIdempotent", fn := fun _ => fun
  | [d] => { results := [.lit (.bool false)], args := [d] }
  | _ => none }
def LawS1463AIdempotentWrongFalsely : Prop := lawS1463AIdempotentRow.holds Yba.pinned (OpenSpec.ofChange lawS1463AIdempotentWrong)

end Rows
end Go.Proofs.Ybulkadgu
