/-
  No cell of these rows narrows 'for every input' (looked for: loops, veiled, ifaces, maps, wideKeys, modest, calm, conditions, laid).
  DERIVED. THE GIVEN ROWS OF THIS SEAT. 2 by the template 'for every input the law returns true; each argument reads behind the call as it read before'; 0 by the template 'total and deterministic' (their statements: YbulkdeceTotals.lean).
  GIVEN WITH THE SEED: the statements are not yours to turn. If you find one false, say at which input.
  Laid BY PROGRAM, IN A SANDBOX (cutbox-rows.mjs): the forced cells as the released guide's own fill.sh prints them over the translation 32dc9e95feb2c2ea… (all of the seat's roots in one cut). By AI agents, Wed Nov 11 2026. No macro, syntax, notation, axiom, sorry.
-/
import Derived.Test.YbulkdeceChecked
import GoSem.Claim
import GoSem.ClaimJoined
import GoSem.ClaimMapViews
import Derived.JoinedTies
import Derived.KernelRfl
namespace Go.Proofs.Ybulkdece
/- THE CELL 'sum', in the pinned program and in every row, IS THE sha256 OF THE DUMP (.gsa) THAT YbulkdeceProg.lean LOADS. Nothing in Lean hashes anything: it is a label: what it is worth is what the hold of that sum in a sandbox is worth. -/
noncomputable def Yba.pinned : Pinned := { name := "ybulkdece", sum := "32dc9e95feb2c2ea369e9f9cae6217f950857f955de97c3f85fcff93b4520cd4", checked := Yba.checked }
namespace Rows
def none {H : Type} : Left H := { results := [], args := [] }

/-- 'stamped.LawS5269BScript': WHATEVER THE INPUT: true; the input reads as it did. -/
def lawS5269BScriptSpec : ChangeSpec := { name := "lawS5269BScript", fn := fun _ => fun
  | [d1, d2] => { results := [.lit (.bool true)], args := [d1, d2] }
  | _ => none }
def lawS5269BScriptRow : OpenClaim := { program := "ybulkdece", sum := "32dc9e95feb2c2ea369e9f9cae6217f950857f955de97c3f85fcff93b4520cd4", func := "example.com/happenstamp/happenstamp/internal/stamped.LawS5269BScript", spec := "lawS5269BScript", apart := false }
def LawS5269BScriptSaid : Prop := lawS5269BScriptRow.holds Yba.pinned (OpenSpec.ofChange lawS5269BScriptSpec)

/-- ITS FALSE NEIGHBOUR: 'it returns false'. Refute it at one input. -/
def lawS5269BScriptWrong : ChangeSpec := { name := "lawS5269BScript", fn := fun _ => fun
  | [d1, d2] => { results := [.lit (.bool false)], args := [d1, d2] }
  | _ => none }
def LawS5269BScriptWrongFalsely : Prop := lawS5269BScriptRow.holds Yba.pinned (OpenSpec.ofChange lawS5269BScriptWrong)

/-- 'stamped.LawS5269BDrain': WHATEVER THE INPUT: true; the input reads as it did. -/
def lawS5269BDrainSpec : ChangeSpec := { name := "lawS5269BDrain", fn := fun _ => fun
  | [d1, d2] => { results := [.lit (.bool true)], args := [d1, d2] }
  | _ => none }
def lawS5269BDrainRow : OpenClaim := { program := "ybulkdece", sum := "32dc9e95feb2c2ea369e9f9cae6217f950857f955de97c3f85fcff93b4520cd4", func := "example.com/happenstamp/happenstamp/internal/stamped.LawS5269BDrain", spec := "lawS5269BDrain", apart := false }
def LawS5269BDrainSaid : Prop := lawS5269BDrainRow.holds Yba.pinned (OpenSpec.ofChange lawS5269BDrainSpec)

/-- ITS FALSE NEIGHBOUR: 'it returns false'. Refute it at one input. -/
def lawS5269BDrainWrong : ChangeSpec := { name := "lawS5269BDrain", fn := fun _ => fun
  | [d1, d2] => { results := [.lit (.bool false)], args := [d1, d2] }
  | _ => none }
def LawS5269BDrainWrongFalsely : Prop := lawS5269BDrainRow.holds Yba.pinned (OpenSpec.ofChange lawS5269BDrainWrong)

end Rows
end Go.Proofs.Ybulkdece
