/-
  No cell of these rows narrows 'for every input' (looked for: loops, veiled, ifaces, maps, wideKeys, modest, calm, conditions, laid).
  DERIVED. THE GIVEN ROWS OF THIS SEAT. 2 by the template 'for every input the law returns true; each argument reads behind the call as it read before'; 0 by the template 'total and deterministic' (their statements: YbulkdegmTotals.lean).
  GIVEN WITH THE SEED: the statements are not yours to turn. If you find one false, say at which input.
  Laid BY PROGRAM, IN A SANDBOX (cutbox-rows.mjs): the forced cells as the released guide's own fill.sh prints them over the translation a896b46f37f39046… (all of the seat's roots in one cut). By AI agents, Wed Nov 11 2026. No macro, syntax, notation, axiom, sorry.
-/
import Derived.Test.YbulkdegmChecked
import GoSem.Claim
import GoSem.ClaimJoined
import GoSem.ClaimMapViews
import Derived.JoinedTies
import Derived.KernelRfl
namespace Go.Proofs.Ybulkdegm
/- THE CELL 'sum', in the pinned program and in every row, IS THE sha256 OF THE DUMP (.gsa) THAT YbulkdegmProg.lean LOADS. Nothing in Lean hashes anything: it is a label: what it is worth is what the hold of that sum in a sandbox is worth. -/
noncomputable def Yba.pinned : Pinned := { name := "ybulkdegm", sum := "a896b46f37f390460d9f6bfce2ff1185af0fc9a220a4d9dc73d131bf19bd2799", checked := Yba.checked }
namespace Rows
def none {H : Type} : Left H := { results := [], args := [] }

/-- 'measure.LawS5277BModel': WHATEVER THE INPUT: true; the input reads as it did. -/
def lawS5277BModelSpec : ChangeSpec := { name := "lawS5277BModel", fn := fun _ => fun
  | [d1, d2] => { results := [.lit (.bool true)], args := [d1, d2] }
  | _ => none }
def lawS5277BModelRow : OpenClaim := { program := "ybulkdegm", sum := "a896b46f37f390460d9f6bfce2ff1185af0fc9a220a4d9dc73d131bf19bd2799", func := "example.com/cutpoint/cutpoint/internal/measure.LawS5277BModel", spec := "lawS5277BModel", unfollowed := true, recurses := true, apart := false }
def LawS5277BModelSaid : Prop := lawS5277BModelRow.holds Yba.pinned (OpenSpec.ofChange lawS5277BModelSpec)

/-- ITS FALSE NEIGHBOUR: 'it returns false'. Refute it at one input. -/
def lawS5277BModelWrong : ChangeSpec := { name := "lawS5277BModel", fn := fun _ => fun
  | [d1, d2] => { results := [.lit (.bool false)], args := [d1, d2] }
  | _ => none }
def LawS5277BModelWrongFalsely : Prop := lawS5277BModelRow.holds Yba.pinned (OpenSpec.ofChange lawS5277BModelWrong)

/-- 'measure.LawS5277BOrder': WHATEVER THE INPUT: true; the input reads as it did. -/
def lawS5277BOrderSpec : ChangeSpec := { name := "lawS5277BOrder", fn := fun _ => fun
  | [d1, d2] => { results := [.lit (.bool true)], args := [d1, d2] }
  | _ => none }
def lawS5277BOrderRow : OpenClaim := { program := "ybulkdegm", sum := "a896b46f37f390460d9f6bfce2ff1185af0fc9a220a4d9dc73d131bf19bd2799", func := "example.com/cutpoint/cutpoint/internal/measure.LawS5277BOrder", spec := "lawS5277BOrder", unfollowed := true, recurses := true, apart := false }
def LawS5277BOrderSaid : Prop := lawS5277BOrderRow.holds Yba.pinned (OpenSpec.ofChange lawS5277BOrderSpec)

/-- ITS FALSE NEIGHBOUR: 'it returns false'. Refute it at one input. -/
def lawS5277BOrderWrong : ChangeSpec := { name := "lawS5277BOrder", fn := fun _ => fun
  | [d1, d2] => { results := [.lit (.bool false)], args := [d1, d2] }
  | _ => none }
def LawS5277BOrderWrongFalsely : Prop := lawS5277BOrderRow.holds Yba.pinned (OpenSpec.ofChange lawS5277BOrderWrong)

end Rows
end Go.Proofs.Ybulkdegm
