/-
  NARROWER THAN 'FOR EVERY INPUT', by the rows' own cells (each row's printed sentence says how): LawS10329BWhole: maps, laid.
  DERIVED. THE GIVEN ROWS OF THIS SEAT. 1 by the template 'for every input the law returns true; each argument reads behind the call as it read before'; 0 by the template 'total and deterministic' (their statements: YbulkhewuFmtTotals.lean).
  GIVEN WITH THE SEED: the statements are not yours to turn. If you find one false, say at which input.
  Laid BY PROGRAM, IN A SANDBOX (cutbox-rows.mjs): the forced cells as the released guide's own fill.sh prints them over the translation 94c5fa6654410ce0… (all of the seat's roots in one cut). By AI agents, Wed Nov 11 2026. No macro, syntax, notation, axiom, sorry.
-/
import Derived.Test.YbulkhewuFmtChecked
import GoSem.Claim
import GoSem.ClaimJoined
import GoSem.ClaimMapViews
import Derived.JoinedTies
import Derived.KernelRfl
namespace Go.Proofs.YbulkhewuFmt
/- THE CELL 'sum', in the pinned program and in every row, IS THE sha256 OF THE DUMP (.gsa) THAT YbulkhewuFmtProg.lean LOADS. Nothing in Lean hashes anything: it is a label: what it is worth is what the hold of that sum in a sandbox is worth. -/
noncomputable def Ybaf.pinned : Pinned := { name := "ybulkhewufmt", sum := "94c5fa6654410ce01d3f9401501676fec02185c3cd63ee9d2adb7fa3a9a8a202", checked := Ybaf.checked }
namespace Rows
def none {H : Type} : Left H := { results := [], args := [] }

/- WHAT THE LISTED PACKAGE-LEVEL VARIABLES READ AS WHEN THE CALL BEGINS. Each datum BY PROGRAM (the guide's laid-datum.mjs) off the statement by which the dump's own 'gosem.cut.vars' lays the variable. In a bare row this is a premise. The card (YbulkhewuFmtCards.lean) ties it to the program's text. -/
def laid_example_com_certarium_certarium_aesKeyWraps {H : Type} : DataW H := .map [(.string [50, 46, 49, 54, 46, 56, 52, 48, 46, 49, 46, 49, 48, 49, 46, 51, 46, 52, 46, 49, 46, 50, 53], .lit (.int .i64 24)), (.string [50, 46, 49, 54, 46, 56, 52, 48, 46, 49, 46, 49, 48, 49, 46, 51, 46, 52, 46, 49, 46, 52, 53], .lit (.int .i64 32)), (.string [50, 46, 49, 54, 46, 56, 52, 48, 46, 49, 46, 49, 48, 49, 46, 51, 46, 52, 46, 49, 46, 53], .lit (.int .i64 16))]

/-- 'certarium.LawS10329BWhole': WHATEVER THE INPUT: true; the input reads as it did. -/
def lawS10329BWholeSpec : ChangeSpec := { name := "lawS10329BWhole", vars := ["example.com/certarium/certarium.aesKeyWraps"], fn := fun _ => fun
  | [d1, d2, d3, g1] => { results := [.lit (.bool true)], args := [d1, d2, d3], vars := [g1] }
  | _ => none }
def lawS10329BWholeRow : OpenClaim := { program := "ybulkhewufmt", sum := "94c5fa6654410ce01d3f9401501676fec02185c3cd63ee9d2adb7fa3a9a8a202", func := "example.com/certarium/certarium.LawS10329BWhole", spec := "lawS10329BWhole", stops := ["fmt.errorf"], inPlace := ["fmt.errorf"], named := ["example.com/certarium/certarium.aesKeyWraps"], maps := true, apart := false, laid := [("example.com/certarium/certarium.aesKeyWraps", laid_example_com_certarium_certarium_aesKeyWraps)] }
/-- NO THEOREM (fmt's text is open here; it may be false): for the released tool's asking of the row's closed facts alone. THE STATEMENT IS 'LawS10329BWholeToldSaid' (YbulkhewuFmtCards.lean). -/
def LawS10329BWholeFormAsk : Prop := lawS10329BWholeRow.holds Ybaf.pinned (OpenSpec.ofChange lawS10329BWholeSpec)

/-- ITS FALSE NEIGHBOUR: 'it returns false'. Refute it at one input. -/
def lawS10329BWholeWrong : ChangeSpec := { name := "lawS10329BWhole", vars := ["example.com/certarium/certarium.aesKeyWraps"], fn := fun _ => fun
  | [d1, d2, d3, g1] => { results := [.lit (.bool false)], args := [d1, d2, d3], vars := [g1] }
  | _ => none }
def LawS10329BWholeWrongFormAsk : Prop := lawS10329BWholeRow.holds Ybaf.pinned (OpenSpec.ofChange lawS10329BWholeWrong)

end Rows
end Go.Proofs.YbulkhewuFmt
