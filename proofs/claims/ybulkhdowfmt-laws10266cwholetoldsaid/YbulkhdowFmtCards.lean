/-
  DERIVED. GIVEN WITH THE SEED: THE CARDS: each row of YbulkhdowFmtRows.lean that lists a variable, with what it lists TIED to the program's text (the seventh form; the later family's looks); each row that meets fmt, with fmt's text TOLD by the authors' own Lean function (tested against real Go, not proved from fmt's source: count such statements apart). THE CARD IS WHAT COUNTS. Prove the row's statement (the work); the ties are given (YbulkhdowFmtTie.lean); close each card by the builder's one call (the guide's Derived/Test/ToyasCard.lean, 'card_holds'). Laid BY PROGRAM, IN A SANDBOX (cutbox-door.mjs). By AI agents, Wed Nov 11 2026. No macro, syntax, notation, axiom, sorry.
-/
import Derived.Test.YbulkhdowFmtRows
import GoSem.ClaimSeven
namespace Go.Proofs.YbulkhdowFmt
namespace Rows

/-- THE TOLD AND TIED CARD OF 'bp.LawS10266BWhole'. -/
def lawS10266BWholeCard : Claim7 := { stood := { row := lawS10266BWholeRow, standIns := [], harness := (true, "bf358ea424163666a1972664849f31c5bd5db270e719d84f68da346e0bdedba6"), looks := true }, told := true, laidByText := true, laidKinds := [.sentinel], laidTests := true, laidLooks := .later, goes := false }
def LawS10266BWholeToldSaid : Prop := Claim7.holds Ybaf.pinned (.plain (OpenSpec.ofChange lawS10266BWholeSpec)) lawS10266BWholeCard
/-- ITS FALSE NEIGHBOUR. Refute it at one input. -/
def LawS10266BWholeToldWrongFalsely : Prop := Claim7.holds Ybaf.pinned (.plain (OpenSpec.ofChange lawS10266BWholeWrong)) lawS10266BWholeCard

/-- THE TOLD CARD OF 'abi.LawS10266CWhole'. -/
def lawS10266CWholeCard : Claim7 := { stood := { row := lawS10266CWholeRow, standIns := [], harness := (true, "bf358ea424163666a1972664849f31c5bd5db270e719d84f68da346e0bdedba6"), looks := true }, told := true, goes := false }
def LawS10266CWholeToldSaid : Prop := Claim7.holds Ybaf.pinned (.plain (OpenSpec.ofChange lawS10266CWholeSpec)) lawS10266CWholeCard
/-- ITS FALSE NEIGHBOUR. Refute it at one input. -/
def LawS10266CWholeToldWrongFalsely : Prop := Claim7.holds Ybaf.pinned (.plain (OpenSpec.ofChange lawS10266CWholeWrong)) lawS10266CWholeCard
end Rows
end Go.Proofs.YbulkhdowFmt
