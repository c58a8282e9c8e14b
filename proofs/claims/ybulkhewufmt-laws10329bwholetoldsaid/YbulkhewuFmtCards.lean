/-
  DERIVED. GIVEN WITH THE SEED: THE CARDS: each row of YbulkhewuFmtRows.lean that lists a variable, with what it lists TIED to the program's text (the seventh form; the later family's looks); each row that meets fmt, with fmt's text TOLD by the authors' own Lean function (tested against real Go, not proved from fmt's source: count such statements apart). THE CARD IS WHAT COUNTS. Prove the row's statement (the work); the ties are given (YbulkhewuFmtTie.lean); close each card by the builder's one call (the guide's Derived/Test/ToyasCard.lean, 'card_holds'). Laid BY PROGRAM, IN A SANDBOX (cutbox-door.mjs). By AI agents, Wed Nov 11 2026. No macro, syntax, notation, axiom, sorry.
-/
import Derived.Test.YbulkhewuFmtRows
import GoSem.ClaimSeven
namespace Go.Proofs.YbulkhewuFmt
namespace Rows

/-- THE TOLD AND TIED CARD OF 'certarium.LawS10329BWhole'. -/
def lawS10329BWholeCard : Claim7 := { stood := { row := lawS10329BWholeRow, standIns := [], harness := (true, "c1015794681bdc4acae78acd57e9fb8ea70521d31aeeadee60e42332819640d2"), looks := true }, told := true, laidByText := true, laidKinds := [.mappedDeep], laidTests := true, laidLooks := .later, goes := false }
def LawS10329BWholeToldSaid : Prop := Claim7.holds Ybaf.pinned (.plain (OpenSpec.ofChange lawS10329BWholeSpec)) lawS10329BWholeCard
/-- ITS FALSE NEIGHBOUR. Refute it at one input. -/
def LawS10329BWholeToldWrongFalsely : Prop := Claim7.holds Ybaf.pinned (.plain (OpenSpec.ofChange lawS10329BWholeWrong)) lawS10329BWholeCard
end Rows
end Go.Proofs.YbulkhewuFmt
