/-
  No cell of these rows narrows 'for every input' (looked for: loops, veiled, ifaces, maps, wideKeys, modest, calm, conditions, laid).
  DERIVED. THE GIVEN ROWS OF THIS SEAT. 1 by the template 'for every input the law returns true; each argument reads behind the call as it read before'; 0 by the template 'total and deterministic' (their statements: YbulkdecsTotals.lean).
  GIVEN WITH THE SEED: the statements are not yours to turn. If you find one false, say at which input.
  Laid BY PROGRAM, IN A SANDBOX (cutbox-rows.mjs): the forced cells as the released guide's own fill.sh prints them over the translation 287e449e44f57dc6… (all of the seat's roots in one cut). By AI agents, Wed Nov 11 2026. No macro, syntax, notation, axiom, sorry.
-/
import Derived.Test.YbulkdecsChecked
import GoSem.Claim
import GoSem.ClaimJoined
import GoSem.ClaimMapViews
import Derived.JoinedTies
import Derived.KernelRfl
namespace Go.Proofs.Ybulkdecs
/- THE CELL 'sum', in the pinned program and in every row, IS THE sha256 OF THE DUMP (.gsa) THAT YbulkdecsProg.lean LOADS. Nothing in Lean hashes anything: it is a label: what it is worth is what the hold of that sum in a sandbox is worth. -/
noncomputable def Yba.pinned : Pinned := { name := "ybulkdecs", sum := "287e449e44f57dc6fd867ebbce9c00631afc01f0cbdf0e192bab9fccda73bf44", checked := Yba.checked }
namespace Rows
def none {H : Type} : Left H := { results := [], args := [] }

/-- 'lockstep.LawS5270CExact': WHATEVER THE INPUT: true; the input reads as it did. -/
def lawS5270CExactSpec : ChangeSpec := { name := "lawS5270CExact", fn := fun _ => fun
  | [d1, d2, d3, d4, d5] => { results := [.lit (.bool true)], args := [d1, d2, d3, d4, d5] }
  | _ => none }
def lawS5270CExactRow : OpenClaim := { program := "ybulkdecs", sum := "287e449e44f57dc6fd867ebbce9c00631afc01f0cbdf0e192bab9fccda73bf44", func := "example.com/lockstep/lockstep.LawS5270CExact", spec := "lawS5270CExact", unfollowed := true, recurses := true, apart := false }
def LawS5270CExactSaid : Prop := lawS5270CExactRow.holds Yba.pinned (OpenSpec.ofChange lawS5270CExactSpec)

/-- ITS FALSE NEIGHBOUR: 'it returns false'. Refute it at one input. -/
def lawS5270CExactWrong : ChangeSpec := { name := "lawS5270CExact", fn := fun _ => fun
  | [d1, d2, d3, d4, d5] => { results := [.lit (.bool false)], args := [d1, d2, d3, d4, d5] }
  | _ => none }
def LawS5270CExactWrongFalsely : Prop := lawS5270CExactRow.holds Yba.pinned (OpenSpec.ofChange lawS5270CExactWrong)

end Rows
end Go.Proofs.Ybulkdecs
