/-
  NARROWER THAN 'FOR EVERY INPUT', by the rows' own cells (each row's printed sentence says how): LawS10266BWhole: ifaces, laid.
  DERIVED. THE GIVEN ROWS OF THIS SEAT. 2 by the template 'for every input the law returns true; each argument reads behind the call as it read before'; 0 by the template 'total and deterministic' (their statements: YbulkhdowFmtTotals.lean).
  GIVEN WITH THE SEED: the statements are not yours to turn. If you find one false, say at which input.
  Laid BY PROGRAM, IN A SANDBOX (cutbox-rows.mjs): the forced cells as the released guide's own fill.sh prints them over the translation 3bffac925d5631e1… (all of the seat's roots in one cut). By AI agents, Wed Nov 11 2026. No macro, syntax, notation, axiom, sorry.
-/
import Derived.Test.YbulkhdowFmtChecked
import GoSem.Claim
import GoSem.ClaimJoined
import GoSem.ClaimMapViews
import Derived.JoinedTies
import Derived.KernelRfl
namespace Go.Proofs.YbulkhdowFmt
/- THE CELL 'sum', in the pinned program and in every row, IS THE sha256 OF THE DUMP (.gsa) THAT YbulkhdowFmtProg.lean LOADS. Nothing in Lean hashes anything: it is a label: what it is worth is what the hold of that sum in a sandbox is worth. -/
noncomputable def Ybaf.pinned : Pinned := { name := "ybulkhdowfmt", sum := "3bffac925d5631e124875ead7c6f8ebb8606a37b1eea3a7c6b8b67ac4728ea55", checked := Ybaf.checked }
namespace Rows
def none {H : Type} : Left H := { results := [], args := [] }

/- WHAT THE LISTED PACKAGE-LEVEL VARIABLES READ AS WHEN THE CALL BEGINS. Each datum BY PROGRAM (the guide's laid-datum.mjs) off the statement by which the dump's own 'gosem.cut.vars' lays the variable. In a bare row this is a premise. The card (YbulkhdowFmtCards.lean) ties it to the program's text. -/
def laid_example_com_partwall_partwall_internal_source_ErrSyntax {H : Type} : DataW H := .iface "*errors.errorString" (.ptr (.agg [.lit (.string [115, 121, 110, 116, 97, 120, 32, 101, 114, 114, 111, 114])]))

/-- 'bp.LawS10266BWhole': WHATEVER THE INPUT: true; the input reads as it did. -/
def lawS10266BWholeSpec : ChangeSpec := { name := "lawS10266BWhole", vars := ["example.com/partwall/partwall/internal/source.ErrSyntax"], fn := fun _ => fun
  | [d1, d2, d3, d4, d5, d6, g1] => { results := [.lit (.bool true)], args := [d1, d2, d3, d4, d5, d6], vars := [g1] }
  | _ => none }
def lawS10266BWholeRow : OpenClaim := { program := "ybulkhdowfmt", sum := "3bffac925d5631e124875ead7c6f8ebb8606a37b1eea3a7c6b8b67ac4728ea55", func := "example.com/partwall/partwall/internal/bp.LawS10266BWhole", spec := "lawS10266BWhole", stops := ["fmt.Sprintf, its operands' methods called", "fmt.errorf"], inPlace := ["fmt.Sprintf", "internal/bytealg.IndexByte", "internal/bytealg.Index", "internal/bytealg.Count"], unfollowed := true, recurses := true, named := ["example.com/partwall/partwall/internal/source.ErrSyntax", "internal/bytealg.MaxLen"], ifaces := true, apart := false, laid := [("example.com/partwall/partwall/internal/source.ErrSyntax", laid_example_com_partwall_partwall_internal_source_ErrSyntax)] }
/-- NO THEOREM (fmt's text is open here; it may be false): for the released tool's asking of the row's closed facts alone. THE STATEMENT IS 'LawS10266BWholeToldSaid' (YbulkhdowFmtCards.lean). -/
def LawS10266BWholeFormAsk : Prop := lawS10266BWholeRow.holds Ybaf.pinned (OpenSpec.ofChange lawS10266BWholeSpec)

/-- ITS FALSE NEIGHBOUR: 'it returns false'. Refute it at one input. -/
def lawS10266BWholeWrong : ChangeSpec := { name := "lawS10266BWhole", vars := ["example.com/partwall/partwall/internal/source.ErrSyntax"], fn := fun _ => fun
  | [d1, d2, d3, d4, d5, d6, g1] => { results := [.lit (.bool false)], args := [d1, d2, d3, d4, d5, d6], vars := [g1] }
  | _ => none }
def LawS10266BWholeWrongFormAsk : Prop := lawS10266BWholeRow.holds Ybaf.pinned (OpenSpec.ofChange lawS10266BWholeWrong)

/-- 'abi.LawS10266CWhole': WHATEVER THE INPUT: true; the input reads as it did. -/
def lawS10266CWholeSpec : ChangeSpec := { name := "lawS10266CWhole", fn := fun _ => fun
  | [d1, d2, d3] => { results := [.lit (.bool true)], args := [d1, d2, d3] }
  | _ => none }
def lawS10266CWholeRow : OpenClaim := { program := "ybulkhdowfmt", sum := "3bffac925d5631e124875ead7c6f8ebb8606a37b1eea3a7c6b8b67ac4728ea55", func := "example.com/partwall/partwall/internal/abi.LawS10266CWhole", spec := "lawS10266CWhole", stops := ["fmt.Sprintf, its operands' methods called", "fmt.errorf"], inPlace := ["fmt.Sprintf", "fmt.errorf"], unfollowed := true, recurses := true, apart := false }
/-- NO THEOREM (fmt's text is open here; it may be false): for the released tool's asking of the row's closed facts alone. THE STATEMENT IS 'LawS10266CWholeToldSaid' (YbulkhdowFmtCards.lean). -/
def LawS10266CWholeFormAsk : Prop := lawS10266CWholeRow.holds Ybaf.pinned (OpenSpec.ofChange lawS10266CWholeSpec)

/-- ITS FALSE NEIGHBOUR: 'it returns false'. Refute it at one input. -/
def lawS10266CWholeWrong : ChangeSpec := { name := "lawS10266CWhole", fn := fun _ => fun
  | [d1, d2, d3] => { results := [.lit (.bool false)], args := [d1, d2, d3] }
  | _ => none }
def LawS10266CWholeWrongFormAsk : Prop := lawS10266CWholeRow.holds Ybaf.pinned (OpenSpec.ofChange lawS10266CWholeWrong)

end Rows
end Go.Proofs.YbulkhdowFmt
