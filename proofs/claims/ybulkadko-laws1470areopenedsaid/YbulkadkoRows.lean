/-
  No cell of these rows narrows 'for every input' (looked for: loops, veiled, ifaces, maps, wideKeys, modest, calm, conditions, laid).
  DERIVED. THE GIVEN ROWS OF THIS SEAT. 1 by the template 'for every input the law returns true; each argument reads behind the call as it read before'; 0 by the template 'total and deterministic' (their statements: YbulkadkoTotals.lean).
  GIVEN WITH THE SEED: the statements are not yours to turn. If you find one false, say at which input.
  Laid BY PROGRAM, IN A SANDBOX (cutbox-rows.mjs): the forced cells as the released guide's own fill.sh prints them over the translation ca485059262852be… (all of the seat's roots in one cut). By AI agents, Wed Nov 11 2026. No macro, syntax, notation, axiom, sorry.
-/
import Derived.Test.YbulkadkoChecked
import GoSem.Claim
import GoSem.ClaimJoined
import GoSem.ClaimMapViews
import Derived.JoinedTies
import Derived.KernelRfl
namespace Go.Proofs.Ybulkadko
/- THE CELL 'sum', in the pinned program and in every row, IS THE sha256 OF THE DUMP (.gsa) THAT YbulkadkoProg.lean LOADS. Nothing in Lean hashes anything: it is a label: what it is worth is what the hold of that sum in a sandbox is worth. -/
noncomputable def Yba.pinned : Pinned := { name := "ybulkadko", sum := "ca485059262852be02620c64a6661272b9f503f7b577ee677c2a9671d0618f9a", checked := Yba.checked }
namespace Rows
def none {H : Type} : Left H := { results := [], args := [] }

/-- 'gate.LawS1470AReopened': WHATEVER THE INPUT: true; the input reads as it did. -/
def lawS1470AReopenedSpec : ChangeSpec := { name := "lawS1470AReopened", fn := fun _ => fun
  | [d1, d2] => { results := [.lit (.bool true)], args := [d1, d2] }
  | _ => none }
def lawS1470AReopenedRow : OpenClaim := { program := "ybulkadko", sum := "ca485059262852be02620c64a6661272b9f503f7b577ee677c2a9671d0618f9a", func := "example.com/countersign/countersign/internal/gate.LawS1470AReopened", spec := "lawS1470AReopened", unfollowed := true, recurses := true, apart := false }
def LawS1470AReopenedSaid : Prop := lawS1470AReopenedRow.holds Yba.pinned (OpenSpec.ofChange lawS1470AReopenedSpec)

/-- ITS FALSE NEIGHBOUR: 'it returns false'. Refute it at one input. -/
def lawS1470AReopenedWrong : ChangeSpec := { name := "lawS1470AReopened", fn := fun _ => fun
  | [d1, d2] => { results := [.lit (.bool false)], args := [d1, d2] }
  | _ => none }
def LawS1470AReopenedWrongFalsely : Prop := lawS1470AReopenedRow.holds Yba.pinned (OpenSpec.ofChange lawS1470AReopenedWrong)

end Rows
end Go.Proofs.Ybulkadko
