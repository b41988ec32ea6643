/-
  No cell of these rows narrows 'for every input' (looked for: loops, veiled, ifaces, maps, wideKeys, modest, calm, conditions, laid).
  DERIVED. THE GIVEN ROWS OF THIS SEAT. 2 by the template 'for every input the law returns true; each argument reads behind the call as it read before'; 0 by the template 'total and deterministic' (their statements: YbulkdmakTotals.lean).
  GIVEN WITH THE SEED: the statements are not yours to turn. If you find one false, say at which input.
  Laid BY PROGRAM, IN A SANDBOX (cutbox-rows.mjs): the forced cells as the released guide's own fill.sh prints them over the translation 80d7e5f69c818b33… (all of the seat's roots in one cut). By AI agents, Wed Nov 11 2026. No macro, syntax, notation, axiom, sorry.
-/
import Derived.Test.YbulkdmakChecked
import GoSem.Claim
import GoSem.ClaimJoined
import GoSem.ClaimMapViews
import Derived.JoinedTies
import Derived.KernelRfl
namespace Go.Proofs.Ybulkdmak
/- THE CELL 'sum', in the pinned program and in every row, IS THE sha256 OF THE DUMP (.gsa) THAT YbulkdmakProg.lean LOADS. Nothing in Lean hashes anything: it is a label: what it is worth is what the hold of that sum in a sandbox is worth. -/
noncomputable def Yba.pinned : Pinned := { name := "ybulkdmak", sum := "80d7e5f69c818b33cb52ed27587a1f14d2962bf18158c17422a2e4e146adaa21", checked := Yba.checked }
namespace Rows
def none {H : Type} : Left H := { results := [], args := [] }

/-- 'dnswire.LawS5652AWhole': WHATEVER THE INPUT: true; the input reads as it did. -/
def lawS5652AWholeSpec : ChangeSpec := { name := "lawS5652AWhole", fn := fun _ => fun
  | [d1, d2] => { results := [.lit (.bool true)], args := [d1, d2] }
  | _ => none }
def lawS5652AWholeRow : OpenClaim := { program := "ybulkdmak", sum := "80d7e5f69c818b33cb52ed27587a1f14d2962bf18158c17422a2e4e146adaa21", func := "example.com/sealpost/sealpost/internal/dnswire.LawS5652AWhole", spec := "lawS5652AWhole", apart := false }
def LawS5652AWholeSaid : Prop := lawS5652AWholeRow.holds Yba.pinned (OpenSpec.ofChange lawS5652AWholeSpec)

/-- ITS FALSE NEIGHBOUR: 'it returns false'. Refute it at one input. -/
def lawS5652AWholeWrong : ChangeSpec := { name := "lawS5652AWhole", fn := fun _ => fun
  | [d1, d2] => { results := [.lit (.bool false)], args := [d1, d2] }
  | _ => none }
def LawS5652AWholeWrongFalsely : Prop := lawS5652AWholeRow.holds Yba.pinned (OpenSpec.ofChange lawS5652AWholeWrong)

/-- 'dnswire.LawS5652ADigits': WHATEVER THE INPUT: true; the input reads as it did. -/
def lawS5652ADigitsSpec : ChangeSpec := { name := "lawS5652ADigits", fn := fun _ => fun
  | [d1, d2, d3, d4] => { results := [.lit (.bool true)], args := [d1, d2, d3, d4] }
  | _ => none }
def lawS5652ADigitsRow : OpenClaim := { program := "ybulkdmak", sum := "80d7e5f69c818b33cb52ed27587a1f14d2962bf18158c17422a2e4e146adaa21", func := "example.com/sealpost/sealpost/internal/dnswire.LawS5652ADigits", spec := "lawS5652ADigits", apart := false }
def LawS5652ADigitsSaid : Prop := lawS5652ADigitsRow.holds Yba.pinned (OpenSpec.ofChange lawS5652ADigitsSpec)

/-- ITS FALSE NEIGHBOUR: 'it returns false'. Refute it at one input. -/
def lawS5652ADigitsWrong : ChangeSpec := { name := "lawS5652ADigits", fn := fun _ => fun
  | [d1, d2, d3, d4] => { results := [.lit (.bool false)], args := [d1, d2, d3, d4] }
  | _ => none }
def LawS5652ADigitsWrongFalsely : Prop := lawS5652ADigitsRow.holds Yba.pinned (OpenSpec.ofChange lawS5652ADigitsWrong)

end Rows
end Go.Proofs.Ybulkdmak
