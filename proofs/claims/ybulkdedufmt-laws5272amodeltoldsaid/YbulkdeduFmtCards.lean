/-
  DERIVED. GIVEN WITH THE SEED: THE CARDS: each row of YbulkdeduFmtRows.lean that lists a variable, with what it lists TIED to the program's text (the seventh form; the later family's looks); each row that meets fmt, with fmt's text TOLD by the authors' own Lean function (tested against real Go, not proved from fmt's source: count such statements apart). THE CARD IS WHAT COUNTS. Prove the row's statement (the work); the ties are given (YbulkdeduFmtTie.lean); close each card by the builder's one call (the guide's Derived/Test/ToyasCard.lean, 'card_holds'). Laid BY PROGRAM, IN A SANDBOX (cutbox-door.mjs). By AI agents, Wed Nov 11 2026. No macro, syntax, notation, axiom, sorry.
-/
import Derived.Test.YbulkdeduFmtRows
import GoSem.ClaimSeven
namespace Go.Proofs.YbulkdeduFmt
namespace Rows

/-- THE TOLD CARD OF 'antecede.LawS5272AModel'. -/
def lawS5272AModelCard : Claim7 := { stood := { row := lawS5272AModelRow, standIns := [], harness := (true, "3519def0d3cdd4e900601c13dec77f0807a73bd3996b29738ff700875c96b78d"), looks := true }, told := true, goes := false }
def LawS5272AModelToldSaid : Prop := Claim7.holds Ybaf.pinned (.plain (OpenSpec.ofChange lawS5272AModelSpec)) lawS5272AModelCard
/-- ITS FALSE NEIGHBOUR. Refute it at one input. -/
def LawS5272AModelToldWrongFalsely : Prop := Claim7.holds Ybaf.pinned (.plain (OpenSpec.ofChange lawS5272AModelWrong)) lawS5272AModelCard

/-- THE TOLD CARD OF 'antecede.LawS5272ARoundTrip'. -/
def lawS5272ARoundTripCard : Claim7 := { stood := { row := lawS5272ARoundTripRow, standIns := [], harness := (true, "3519def0d3cdd4e900601c13dec77f0807a73bd3996b29738ff700875c96b78d"), looks := true }, told := true, goes := false }
def LawS5272ARoundTripToldSaid : Prop := Claim7.holds Ybaf.pinned (.plain (OpenSpec.ofChange lawS5272ARoundTripSpec)) lawS5272ARoundTripCard
/-- ITS FALSE NEIGHBOUR. Refute it at one input. -/
def LawS5272ARoundTripToldWrongFalsely : Prop := Claim7.holds Ybaf.pinned (.plain (OpenSpec.ofChange lawS5272ARoundTripWrong)) lawS5272ARoundTripCard

/-- THE TOLD AND TIED CARD OF 'antecede.LawS5272CKeep'. -/
def lawS5272CKeepCard : Claim7 := { stood := { row := lawS5272CKeepRow, standIns := [], harness := (true, "3519def0d3cdd4e900601c13dec77f0807a73bd3996b29738ff700875c96b78d"), looks := true }, told := true, laidByText := true, laidKinds := [.data, .pinned], laidTests := true, laidLooks := .later, goes := false }
def LawS5272CKeepToldSaid : Prop := Claim7.holds Ybaf.pinned (.plain (OpenSpec.ofChange lawS5272CKeepSpec)) lawS5272CKeepCard
/-- ITS FALSE NEIGHBOUR. Refute it at one input. -/
def LawS5272CKeepToldWrongFalsely : Prop := Claim7.holds Ybaf.pinned (.plain (OpenSpec.ofChange lawS5272CKeepWrong)) lawS5272CKeepCard

/-- THE TOLD AND TIED CARD OF 'antecede.LawS5272CUnkeep'. -/
def lawS5272CUnkeepCard : Claim7 := { stood := { row := lawS5272CUnkeepRow, standIns := [], harness := (true, "3519def0d3cdd4e900601c13dec77f0807a73bd3996b29738ff700875c96b78d"), looks := true }, told := true, laidByText := true, laidKinds := [.data, .pinned], laidTests := true, laidLooks := .later, goes := false }
def LawS5272CUnkeepToldSaid : Prop := Claim7.holds Ybaf.pinned (.plain (OpenSpec.ofChange lawS5272CUnkeepSpec)) lawS5272CUnkeepCard
/-- ITS FALSE NEIGHBOUR. Refute it at one input. -/
def LawS5272CUnkeepToldWrongFalsely : Prop := Claim7.holds Ybaf.pinned (.plain (OpenSpec.ofChange lawS5272CUnkeepWrong)) lawS5272CUnkeepCard
end Rows
end Go.Proofs.YbulkdeduFmt
