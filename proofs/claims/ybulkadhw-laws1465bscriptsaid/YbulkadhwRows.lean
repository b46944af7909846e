/-
  No cell of these rows narrows 'for every input' (looked for: loops, veiled, ifaces, maps, wideKeys, modest, calm, conditions, laid).
  DERIVED. THE GIVEN ROWS OF THIS SEAT. 5 by the template 'for every input the law returns true; each argument reads behind the call as it read before'; 0 by the template 'total and deterministic' (their statements: YbulkadhwTotals.lean).
  GIVEN WITH THE SEED: the statements are not yours to turn. If you find one false, say at which input.
  Laid BY PROGRAM, IN A SANDBOX (cutbox-rows.mjs): the forced cells as the released guide's own fill.sh prints them over the translation 2c345cc84c66f618… (all of the seat's roots in one cut). By AI agents, Wed Nov 11 2026. No macro, syntax, notation, axiom, sorry.
-/
import Derived.Test.YbulkadhwChecked
import GoSem.Claim
import GoSem.ClaimJoined
import GoSem.ClaimMapViews
import Derived.JoinedTies
import Derived.KernelRfl
namespace Go.Proofs.Ybulkadhw
/- THE CELL 'sum', in the pinned program and in every row, IS THE sha256 OF THE DUMP (.gsa) THAT YbulkadhwProg.lean LOADS. Nothing in Lean hashes anything: it is a label: what it is worth is what the hold of that sum in a sandbox is worth. -/
noncomputable def Yba.pinned : Pinned := { name := "ybulkadhw", sum := "2c345cc84c66f618a3fdcee463400f0982a45e454387d68e43087c550936a159", checked := Yba.checked }
namespace Rows
def none {H : Type} : Left H := { results := [], args := [] }

/-- 'smf.LawS1465AModify': WHATEVER THE INPUT: true; the input reads as it did. -/
def lawS1465AModifySpec : ChangeSpec := { name := "lawS1465AModify", fn := fun _ => fun
  | [d1, d2, d3, d4, d5, d6, d7] => { results := [.lit (.bool true)], args := [d1, d2, d3, d4, d5, d6, d7] }
  | _ => none }
def lawS1465AModifyRow : OpenClaim := { program := "ybulkadhw", sum := "2c345cc84c66f618a3fdcee463400f0982a45e454387d68e43087c550936a159", func := "example.com/handshift/handshift/pkg/smf.LawS1465AModify", spec := "lawS1465AModify", plainKeys := false, apart := false }
def LawS1465AModifySaid : Prop := lawS1465AModifyRow.holds Yba.pinned (OpenSpec.ofChange lawS1465AModifySpec)

/-- ITS FALSE NEIGHBOUR: 'it returns false'. Refute it at one input. -/
def lawS1465AModifyWrong : ChangeSpec := { name := "lawS1465AModify", fn := fun _ => fun
  | [d1, d2, d3, d4, d5, d6, d7] => { results := [.lit (.bool false)], args := [d1, d2, d3, d4, d5, d6, d7] }
  | _ => none }
def LawS1465AModifyWrongFalsely : Prop := lawS1465AModifyRow.holds Yba.pinned (OpenSpec.ofChange lawS1465AModifyWrong)

/-- 'smf.LawS1465ARelease': WHATEVER THE INPUT: true; the input reads as it did. -/
def lawS1465AReleaseSpec : ChangeSpec := { name := "lawS1465ARelease", fn := fun _ => fun
  | [d1, d2, d3, d4, d5, d6] => { results := [.lit (.bool true)], args := [d1, d2, d3, d4, d5, d6] }
  | _ => none }
def lawS1465AReleaseRow : OpenClaim := { program := "ybulkadhw", sum := "2c345cc84c66f618a3fdcee463400f0982a45e454387d68e43087c550936a159", func := "example.com/handshift/handshift/pkg/smf.LawS1465ARelease", spec := "lawS1465ARelease", plainKeys := false, apart := false }
def LawS1465AReleaseSaid : Prop := lawS1465AReleaseRow.holds Yba.pinned (OpenSpec.ofChange lawS1465AReleaseSpec)

/-- ITS FALSE NEIGHBOUR: 'it returns false'. Refute it at one input. -/
def lawS1465AReleaseWrong : ChangeSpec := { name := "lawS1465ARelease", fn := fun _ => fun
  | [d1, d2, d3, d4, d5, d6] => { results := [.lit (.bool false)], args := [d1, d2, d3, d4, d5, d6] }
  | _ => none }
def LawS1465AReleaseWrongFalsely : Prop := lawS1465AReleaseRow.holds Yba.pinned (OpenSpec.ofChange lawS1465AReleaseWrong)

/-- 'smf.LawS1465ANone': WHATEVER THE INPUT: true; the input reads as it did. -/
def lawS1465ANoneSpec : ChangeSpec := { name := "lawS1465ANone", fn := fun _ => fun
  | [d1, d2, d3, d4, d5] => { results := [.lit (.bool true)], args := [d1, d2, d3, d4, d5] }
  | _ => none }
def lawS1465ANoneRow : OpenClaim := { program := "ybulkadhw", sum := "2c345cc84c66f618a3fdcee463400f0982a45e454387d68e43087c550936a159", func := "example.com/handshift/handshift/pkg/smf.LawS1465ANone", spec := "lawS1465ANone", plainKeys := false, apart := false }
def LawS1465ANoneSaid : Prop := lawS1465ANoneRow.holds Yba.pinned (OpenSpec.ofChange lawS1465ANoneSpec)

/-- ITS FALSE NEIGHBOUR: 'it returns false'. Refute it at one input. -/
def lawS1465ANoneWrong : ChangeSpec := { name := "lawS1465ANone", fn := fun _ => fun
  | [d1, d2, d3, d4, d5] => { results := [.lit (.bool false)], args := [d1, d2, d3, d4, d5] }
  | _ => none }
def LawS1465ANoneWrongFalsely : Prop := lawS1465ANoneRow.holds Yba.pinned (OpenSpec.ofChange lawS1465ANoneWrong)

/-- 'lab.LawS1465BModel': WHATEVER THE INPUT: true; the input reads as it did. -/
def lawS1465BModelSpec : ChangeSpec := { name := "lawS1465BModel", fn := fun _ => fun
  | [d1, d2, d3, d4, d5, d6] => { results := [.lit (.bool true)], args := [d1, d2, d3, d4, d5, d6] }
  | _ => none }
def lawS1465BModelRow : OpenClaim := { program := "ybulkadhw", sum := "2c345cc84c66f618a3fdcee463400f0982a45e454387d68e43087c550936a159", func := "example.com/handshift/handshift/pkg/lab.LawS1465BModel", spec := "lawS1465BModel", plainKeys := false, apart := false }
def LawS1465BModelSaid : Prop := lawS1465BModelRow.holds Yba.pinned (OpenSpec.ofChange lawS1465BModelSpec)

/-- ITS FALSE NEIGHBOUR: 'it returns false'. Refute it at one input. -/
def lawS1465BModelWrong : ChangeSpec := { name := "lawS1465BModel", fn := fun _ => fun
  | [d1, d2, d3, d4, d5, d6] => { results := [.lit (.bool false)], args := [d1, d2, d3, d4, d5, d6] }
  | _ => none }
def LawS1465BModelWrongFalsely : Prop := lawS1465BModelRow.holds Yba.pinned (OpenSpec.ofChange lawS1465BModelWrong)

/-- 'lab.LawS1465BScript': WHATEVER THE INPUT: true; the input reads as it did. -/
def lawS1465BScriptSpec : ChangeSpec := { name := "lawS1465BScript", fn := fun _ => fun
  | [d1, d2, d3, d4] => { results := [.lit (.bool true)], args := [d1, d2, d3, d4] }
  | _ => none }
def lawS1465BScriptRow : OpenClaim := { program := "ybulkadhw", sum := "2c345cc84c66f618a3fdcee463400f0982a45e454387d68e43087c550936a159", func := "example.com/handshift/handshift/pkg/lab.LawS1465BScript", spec := "lawS1465BScript", plainKeys := false, apart := false }
def LawS1465BScriptSaid : Prop := lawS1465BScriptRow.holds Yba.pinned (OpenSpec.ofChange lawS1465BScriptSpec)

/-- ITS FALSE NEIGHBOUR: 'it returns false'. Refute it at one input. -/
def lawS1465BScriptWrong : ChangeSpec := { name := "lawS1465BScript", fn := fun _ => fun
  | [d1, d2, d3, d4] => { results := [.lit (.bool false)], args := [d1, d2, d3, d4] }
  | _ => none }
def LawS1465BScriptWrongFalsely : Prop := lawS1465BScriptRow.holds Yba.pinned (OpenSpec.ofChange lawS1465BScriptWrong)

end Rows
end Go.Proofs.Ybulkadhw
