/-
  No cell of these rows narrows 'for every input' (looked for: loops, veiled, ifaces, maps, wideKeys, modest, calm, conditions, laid).
  DERIVED. THE GIVEN ROWS OF THIS SEAT. 1 by the template 'for every input the law returns true; each argument reads behind the call as it read before'; 0 by the template 'total and deterministic' (their statements: YbulkhdoiTotals.lean).
  GIVEN WITH THE SEED: the statements are not yours to turn. If you find one false, say at which input.
  Laid BY PROGRAM, IN A SANDBOX (cutbox-rows.mjs): the forced cells as the released guide's own fill.sh prints them over the translation a2334f03f3cf49be… (all of the seat's roots in one cut). By AI agents, Wed Nov 11 2026. No macro, syntax, notation, axiom, sorry.
-/
import Derived.Test.YbulkhdoiChecked
import GoSem.Claim
import GoSem.ClaimJoined
import GoSem.ClaimMapViews
import Derived.JoinedTies
import Derived.KernelRfl
namespace Go.Proofs.Ybulkhdoi
/- THE CELL 'sum', in the pinned program and in every row, IS THE sha256 OF THE DUMP (.gsa) THAT YbulkhdoiProg.lean LOADS. Nothing in Lean hashes anything: it is a label: what it is worth is what the hold of that sum in a sandbox is worth. -/
noncomputable def Yba.pinned : Pinned := { name := "ybulkhdoi", sum := "a2334f03f3cf49bedc157dab6143ffb3d5a90d1c6b8cf3b00ef7767139393b85", checked := Yba.checked }
namespace Rows
def none {H : Type} : Left H := { results := [], args := [] }

/-- 'apiserver.LawS10265CWhole': WHATEVER THE INPUT: true; the input reads as it did. -/
def lawS10265CWholeSpec : ChangeSpec := { name := "lawS10265CWhole", fn := fun _ => fun
  | [d1, d2, d3] => { results := [.lit (.bool true)], args := [d1, d2, d3] }
  | _ => none }
def lawS10265CWholeRow : OpenClaim := { program := "ybulkhdoi", sum := "a2334f03f3cf49bedc157dab6143ffb3d5a90d1c6b8cf3b00ef7767139393b85", func := "example.com/slipway/slipway/apiserver.LawS10265CWhole", spec := "lawS10265CWhole", apart := false }
def LawS10265CWholeSaid : Prop := lawS10265CWholeRow.holds Yba.pinned (OpenSpec.ofChange lawS10265CWholeSpec)

/-- ITS FALSE NEIGHBOUR: 'it returns false'. Refute it at one input. -/
def lawS10265CWholeWrong : ChangeSpec := { name := "lawS10265CWhole", fn := fun _ => fun
  | [d1, d2, d3] => { results := [.lit (.bool false)], args := [d1, d2, d3] }
  | _ => none }
def LawS10265CWholeWrongFalsely : Prop := lawS10265CWholeRow.holds Yba.pinned (OpenSpec.ofChange lawS10265CWholeWrong)

end Rows
end Go.Proofs.Ybulkhdoi
