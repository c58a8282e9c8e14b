/-
  No cell of these rows narrows 'for every input' (looked for: loops, veiled, ifaces, maps, wideKeys, modest, calm, conditions, laid).
  DERIVED. THE GIVEN ROWS OF THIS SEAT. 1 by the template 'for every input the law returns true; each argument reads behind the call as it read before'; 0 by the template 'total and deterministic' (their statements: YbulkhexiTotals.lean).
  GIVEN WITH THE SEED: the statements are not yours to turn. If you find one false, say at which input.
  Laid BY PROGRAM, IN A SANDBOX (cutbox-rows.mjs): the forced cells as the released guide's own fill.sh prints them over the translation 8597eb53ab3e5285… (all of the seat's roots in one cut). By AI agents, Wed Nov 11 2026. No macro, syntax, notation, axiom, sorry.
-/
import Derived.Test.YbulkhexiChecked
import GoSem.Claim
import GoSem.ClaimJoined
import GoSem.ClaimMapViews
import Derived.JoinedTies
import Derived.KernelRfl
namespace Go.Proofs.Ybulkhexi
/- THE CELL 'sum', in the pinned program and in every row, IS THE sha256 OF THE DUMP (.gsa) THAT YbulkhexiProg.lean LOADS. Nothing in Lean hashes anything: it is a label: what it is worth is what the hold of that sum in a sandbox is worth. -/
noncomputable def Yba.pinned : Pinned := { name := "ybulkhexi", sum := "8597eb53ab3e5285a24949ccfe6cb6cab6f62c27009cacd71fa88b607c3ac491", checked := Yba.checked }
namespace Rows
def none {H : Type} : Left H := { results := [], args := [] }

/-- 'cartage.LawS10330BWhole': WHATEVER THE INPUT: true; the input reads as it did. -/
def lawS10330BWholeSpec : ChangeSpec := { name := "lawS10330BWhole", fn := fun _ => fun
  | [d1, d2, d3, d4, d5, d6] => { results := [.lit (.bool true)], args := [d1, d2, d3, d4, d5, d6] }
  | _ => none }
def lawS10330BWholeRow : OpenClaim := { program := "ybulkhexi", sum := "8597eb53ab3e5285a24949ccfe6cb6cab6f62c27009cacd71fa88b607c3ac491", func := "example.com/cartage/cartage.LawS10330BWhole", spec := "lawS10330BWhole", apart := false }
def LawS10330BWholeSaid : Prop := lawS10330BWholeRow.holds Yba.pinned (OpenSpec.ofChange lawS10330BWholeSpec)

/-- ITS FALSE NEIGHBOUR: 'it returns false'. Refute it at one input. -/
def lawS10330BWholeWrong : ChangeSpec := { name := "lawS10330BWhole", fn := fun _ => fun
  | [d1, d2, d3, d4, d5, d6] => { results := [.lit (.bool false)], args := [d1, d2, d3, d4, d5, d6] }
  | _ => none }
def LawS10330BWholeWrongFalsely : Prop := lawS10330BWholeRow.holds Yba.pinned (OpenSpec.ofChange lawS10330BWholeWrong)

end Rows
end Go.Proofs.Ybulkhexi
