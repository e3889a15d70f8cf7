/-
  NARROWER THAN 'FOR EVERY INPUT', by the rows' own cells (each row's printed sentence says how): LawS5272CKeep: laid · LawS5272CUnkeep: laid.
  DERIVED. THE GIVEN ROWS OF THIS SEAT. 4 by the template 'for every input the law returns true; each argument reads behind the call as it read before'; 0 by the template 'total and deterministic' (their statements: YbulkdeduFmtTotals.lean).
  GIVEN WITH THE SEED: the statements are not yours to turn. If you find one false, say at which input.
  Laid BY PROGRAM, IN A SANDBOX (cutbox-rows.mjs): the forced cells as the released guide's own fill.sh prints them over the translation 3b3315e131e23d24… (all of the seat's roots in one cut). By AI agents, Wed Nov 11 2026. No macro, syntax, notation, axiom, sorry.
-/
import Derived.Test.YbulkdeduFmtChecked
import GoSem.PinnedTables
import GoSem.Claim
import GoSem.ClaimJoined
import GoSem.ClaimMapViews
import Derived.JoinedTies
import Derived.KernelRfl
namespace Go.Proofs.YbulkdeduFmt
/- THE CELL 'sum', in the pinned program and in every row, IS THE sha256 OF THE DUMP (.gsa) THAT YbulkdeduFmtProg.lean LOADS. Nothing in Lean hashes anything: it is a label: what it is worth is what the hold of that sum in a sandbox is worth. -/
noncomputable def Ybaf.pinned : Pinned := { name := "ybulkdedufmt", sum := "3b3315e131e23d24948076ef308cf82fc9f801476aeee5d8324caa4643922cdf", checked := Ybaf.checked }
namespace Rows
def none {H : Type} : Left H := { results := [], args := [] }

/- WHAT THE LISTED PACKAGE-LEVEL VARIABLES READ AS WHEN THE CALL BEGINS. Each datum BY PROGRAM (the guide's laid-datum.mjs) off the statement by which the dump's own 'gosem.cut.vars' lays the variable. In a bare row this is a premise. The card (YbulkdeduFmtCards.lean) ties it to the program's text. -/
def laid_unicode_utf8_acceptRanges {H : Type} : DataW H := .agg [.agg [.lit (.int .u8 128), .lit (.int .u8 191)], .agg [.lit (.int .u8 160), .lit (.int .u8 191)], .agg [.lit (.int .u8 128), .lit (.int .u8 159)], .agg [.lit (.int .u8 144), .lit (.int .u8 191)], .agg [.lit (.int .u8 128), .lit (.int .u8 143)], .agg [.lit (.int .u8 0), .lit (.int .u8 0)], .agg [.lit (.int .u8 0), .lit (.int .u8 0)], .agg [.lit (.int .u8 0), .lit (.int .u8 0)], .agg [.lit (.int .u8 0), .lit (.int .u8 0)], .agg [.lit (.int .u8 0), .lit (.int .u8 0)], .agg [.lit (.int .u8 0), .lit (.int .u8 0)], .agg [.lit (.int .u8 0), .lit (.int .u8 0)], .agg [.lit (.int .u8 0), .lit (.int .u8 0)], .agg [.lit (.int .u8 0), .lit (.int .u8 0)], .agg [.lit (.int .u8 0), .lit (.int .u8 0)], .agg [.lit (.int .u8 0), .lit (.int .u8 0)]]
/-- One of Go's own tables, pinned by name: the form's constant. -/
def laid_unicode_utf8_first : DataW Unit := Go.Pinned.utf8First

/-- 'antecede.LawS5272AModel': WHATEVER THE INPUT: true; the input reads as it did. -/
def lawS5272AModelSpec : ChangeSpec := { name := "lawS5272AModel", fn := fun _ => fun
  | [d1, d2] => { results := [.lit (.bool true)], args := [d1, d2] }
  | _ => none }
def lawS5272AModelRow : OpenClaim := { program := "ybulkdedufmt", sum := "3b3315e131e23d24948076ef308cf82fc9f801476aeee5d8324caa4643922cdf", func := "example.com/antecede/antecede.LawS5272AModel", spec := "lawS5272AModel", stops := ["fmt.errorf"], inPlace := ["fmt.errorf"], plainKeys := false, apart := false }
/-- NO THEOREM (fmt's text is open here; it may be false): for the released tool's asking of the row's closed facts alone. THE STATEMENT IS 'LawS5272AModelToldSaid' (YbulkdeduFmtCards.lean). -/
def LawS5272AModelFormAsk : Prop := lawS5272AModelRow.holds Ybaf.pinned (OpenSpec.ofChange lawS5272AModelSpec)

/-- ITS FALSE NEIGHBOUR: 'it returns false'. Refute it at one input. -/
def lawS5272AModelWrong : ChangeSpec := { name := "lawS5272AModel", fn := fun _ => fun
  | [d1, d2] => { results := [.lit (.bool false)], args := [d1, d2] }
  | _ => none }
def LawS5272AModelWrongFormAsk : Prop := lawS5272AModelRow.holds Ybaf.pinned (OpenSpec.ofChange lawS5272AModelWrong)

/-- 'antecede.LawS5272ARoundTrip': WHATEVER THE INPUT: true; the input reads as it did. -/
def lawS5272ARoundTripSpec : ChangeSpec := { name := "lawS5272ARoundTrip", fn := fun _ => fun
  | [d1, d2] => { results := [.lit (.bool true)], args := [d1, d2] }
  | _ => none }
def lawS5272ARoundTripRow : OpenClaim := { program := "ybulkdedufmt", sum := "3b3315e131e23d24948076ef308cf82fc9f801476aeee5d8324caa4643922cdf", func := "example.com/antecede/antecede.LawS5272ARoundTrip", spec := "lawS5272ARoundTrip", stops := ["fmt.errorf"], inPlace := ["fmt.errorf"], plainKeys := false, apart := false }
/-- NO THEOREM (fmt's text is open here; it may be false): for the released tool's asking of the row's closed facts alone. THE STATEMENT IS 'LawS5272ARoundTripToldSaid' (YbulkdeduFmtCards.lean). -/
def LawS5272ARoundTripFormAsk : Prop := lawS5272ARoundTripRow.holds Ybaf.pinned (OpenSpec.ofChange lawS5272ARoundTripSpec)

/-- ITS FALSE NEIGHBOUR: 'it returns false'. Refute it at one input. -/
def lawS5272ARoundTripWrong : ChangeSpec := { name := "lawS5272ARoundTrip", fn := fun _ => fun
  | [d1, d2] => { results := [.lit (.bool false)], args := [d1, d2] }
  | _ => none }
def LawS5272ARoundTripWrongFormAsk : Prop := lawS5272ARoundTripRow.holds Ybaf.pinned (OpenSpec.ofChange lawS5272ARoundTripWrong)

/-- 'antecede.LawS5272CKeep': WHATEVER THE INPUT: true; the input reads as it did. -/
def lawS5272CKeepSpec : ChangeSpec := { name := "lawS5272CKeep", fn := fun _ => fun
  | [d1, d2] => { results := [.lit (.bool true)], args := [d1, d2] }
  | _ => none }
def lawS5272CKeepRow : OpenClaim := { program := "ybulkdedufmt", sum := "3b3315e131e23d24948076ef308cf82fc9f801476aeee5d8324caa4643922cdf", func := "example.com/antecede/antecede.LawS5272CKeep", spec := "lawS5272CKeep", stops := ["fmt.errorf"], inPlace := ["fmt.errorf"], unfollowed := true, recurses := true, named := ["unicode/utf8.first", "unicode/utf8.acceptRanges"], plainKeys := false, apart := false, laid := [("unicode/utf8.acceptRanges", laid_unicode_utf8_acceptRanges), ("unicode/utf8.first", laid_unicode_utf8_first)] }
/-- NO THEOREM (fmt's text is open here; it may be false): for the released tool's asking of the row's closed facts alone. THE STATEMENT IS 'LawS5272CKeepToldSaid' (YbulkdeduFmtCards.lean). -/
def LawS5272CKeepFormAsk : Prop := lawS5272CKeepRow.holds Ybaf.pinned (OpenSpec.ofChange lawS5272CKeepSpec)

/-- ITS FALSE NEIGHBOUR: 'it returns false'. Refute it at one input. -/
def lawS5272CKeepWrong : ChangeSpec := { name := "lawS5272CKeep", fn := fun _ => fun
  | [d1, d2] => { results := [.lit (.bool false)], args := [d1, d2] }
  | _ => none }
def LawS5272CKeepWrongFormAsk : Prop := lawS5272CKeepRow.holds Ybaf.pinned (OpenSpec.ofChange lawS5272CKeepWrong)

/-- 'antecede.LawS5272CUnkeep': WHATEVER THE INPUT: true; the input reads as it did. -/
def lawS5272CUnkeepSpec : ChangeSpec := { name := "lawS5272CUnkeep", fn := fun _ => fun
  | [d1, d2, d3] => { results := [.lit (.bool true)], args := [d1, d2, d3] }
  | _ => none }
def lawS5272CUnkeepRow : OpenClaim := { program := "ybulkdedufmt", sum := "3b3315e131e23d24948076ef308cf82fc9f801476aeee5d8324caa4643922cdf", func := "example.com/antecede/antecede.LawS5272CUnkeep", spec := "lawS5272CUnkeep", stops := ["fmt.errorf"], inPlace := ["fmt.errorf"], unfollowed := true, recurses := true, named := ["unicode/utf8.first", "unicode/utf8.acceptRanges"], plainKeys := false, apart := false, laid := [("unicode/utf8.acceptRanges", laid_unicode_utf8_acceptRanges), ("unicode/utf8.first", laid_unicode_utf8_first)] }
/-- NO THEOREM (fmt's text is open here; it may be false): for the released tool's asking of the row's closed facts alone. THE STATEMENT IS 'LawS5272CUnkeepToldSaid' (YbulkdeduFmtCards.lean). -/
def LawS5272CUnkeepFormAsk : Prop := lawS5272CUnkeepRow.holds Ybaf.pinned (OpenSpec.ofChange lawS5272CUnkeepSpec)

/-- ITS FALSE NEIGHBOUR: 'it returns false'. Refute it at one input. -/
def lawS5272CUnkeepWrong : ChangeSpec := { name := "lawS5272CUnkeep", fn := fun _ => fun
  | [d1, d2, d3] => { results := [.lit (.bool false)], args := [d1, d2, d3] }
  | _ => none }
def LawS5272CUnkeepWrongFormAsk : Prop := lawS5272CUnkeepRow.holds Ybaf.pinned (OpenSpec.ofChange lawS5272CUnkeepWrong)

end Rows
end Go.Proofs.YbulkdeduFmt
