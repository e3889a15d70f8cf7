/-
  DERIVED. GIVEN WITH THE SEED: THE CARDS: each row of YbulkdeduDoorRows.lean that lists a variable, with what it lists TIED to the program's text (the seventh form; the later family's looks); each row that meets fmt, with fmt's text TOLD by the authors' own Lean function (tested against real Go, not proved from fmt's source: count such statements apart). THE CARD IS WHAT COUNTS. Prove the row's statement (the work); the ties are given (YbulkdeduDoorTie.lean); close each card by the builder's one call (the guide's Derived/Test/ToyasCard.lean, 'card_holds'). Laid BY PROGRAM, IN A SANDBOX (cutbox-door.mjs). By AI agents, Wed Nov 11 2026. No macro, syntax, notation, axiom, sorry.
-/
import Derived.Test.YbulkdeduDoorRows
import GoSem.ClaimSeven
namespace Go.Proofs.YbulkdeduDoor
namespace Rows

/-- THE TIED CARD OF 'antecede.LawS5272BFresh'. -/
def lawS5272BFreshCard : Claim7 := { stood := { row := lawS5272BFreshRow, standIns := [], harness := (true, "e56f1aa6ecb2295c02e3c8ed3ed8d246f4300e44bf9c141f4d6473287a16eddd"), looks := false }, kinds := [], alts := [], laidByText := true, laidKinds := [.data], laidTests := true, laidLooks := .later }
def LawS5272BFreshCardSaid : Prop := Claim7.holds Ybad.pinned (.plain (OpenSpec.ofChange lawS5272BFreshSpec)) lawS5272BFreshCard

/-- THE TIED CARD OF 'antecede.LawS5272BClose'. -/
def lawS5272BCloseCard : Claim7 := { stood := { row := lawS5272BCloseRow, standIns := [], harness := (true, "e56f1aa6ecb2295c02e3c8ed3ed8d246f4300e44bf9c141f4d6473287a16eddd"), looks := false }, kinds := [], alts := [], laidByText := true, laidKinds := [.data], laidTests := true, laidLooks := .later }
def LawS5272BCloseCardSaid : Prop := Claim7.holds Ybad.pinned (.plain (OpenSpec.ofChange lawS5272BCloseSpec)) lawS5272BCloseCard
end Rows
end Go.Proofs.YbulkdeduDoor
