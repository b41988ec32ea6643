/-
  DERIVED. GIVEN WITH THE SEED: THE CARDS: each row of YbonelvqoDoorRows.lean that lists a variable, with what it lists TIED to the program's text (the seventh form; the later family's looks); each row that meets fmt, with fmt's text TOLD by the authors' own Lean function (tested against real Go, not proved from fmt's source: count such statements apart). THE CARD IS WHAT COUNTS. Prove the row's statement (the work); the ties are given (YbonelvqoDoorTie.lean); close each card by the builder's one call (the guide's Derived/Test/ToyasCard.lean, 'card_holds'). Laid BY PROGRAM, IN A SANDBOX (cutbox-door.mjs). By AI agents, Wed Nov 11 2026. No macro, syntax, notation, axiom, sorry.
-/
import Derived.Test.YbonelvqoDoorRows
import GoSem.ClaimSeven
namespace Go.Proofs.YbonelvqoDoor
namespace Rows

/-- THE TIED CARD OF 'securities.LawS5656BWhole'. -/
def lawS5656BWholeCard : Claim7 := { stood := { row := lawS5656BWholeRow, standIns := [], harness := (true, "98dc9a9e1c9ffedd03e5ed67d577e8bcd202951c00527b251e8fbafaa24ca33e"), looks := false }, kinds := [], alts := [], laidByText := true, laidKinds := [.data], laidTests := true, laidLooks := .later }
def LawS5656BWholeCardSaid : Prop := Claim7.holds Ybgs.pinned (.plain (OpenSpec.ofChange lawS5656BWholeSpec)) lawS5656BWholeCard
end Rows
end Go.Proofs.YbonelvqoDoor
