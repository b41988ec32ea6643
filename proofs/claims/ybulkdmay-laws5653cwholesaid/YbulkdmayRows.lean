/-
  No cell of these rows narrows 'for every input' (looked for: loops, veiled, ifaces, maps, wideKeys, modest, calm, conditions, laid).
  DERIVED. THE GIVEN ROWS OF THIS SEAT. 3 by the template 'for every input the law returns true; each argument reads behind the call as it read before'; 0 by the template 'total and deterministic' (their statements: YbulkdmayTotals.lean).
  GIVEN WITH THE SEED: the statements are not yours to turn. If you find one false, say at which input.
  Laid BY PROGRAM, IN A SANDBOX (cutbox-rows.mjs): the forced cells as the released guide's own fill.sh prints them over the translation 67bb5e98ade316fa… (all of the seat's roots in one cut). By AI agents, Wed Nov 11 2026. No macro, syntax, notation, axiom, sorry.
-/
import Derived.Test.YbulkdmayChecked
import GoSem.Claim
import GoSem.ClaimJoined
import GoSem.ClaimMapViews
import Derived.JoinedTies
import Derived.KernelRfl
namespace Go.Proofs.Ybulkdmay
/- THE CELL 'sum', in the pinned program and in every row, IS THE sha256 OF THE DUMP (.gsa) THAT YbulkdmayProg.lean LOADS. Nothing in Lean hashes anything: it is a label: what it is worth is what the hold of that sum in a sandbox is worth. -/
noncomputable def Yba.pinned : Pinned := { name := "ybulkdmay", sum := "67bb5e98ade316fae32d1cee9dbcc5a7fa614653a6f6c7acb5d3491c9d62a6ad", checked := Yba.checked }
namespace Rows
def none {H : Type} : Left H := { results := [], args := [] }

/-- 'lines.LawS5653BWhole': WHATEVER THE INPUT: true; the input reads as it did. -/
def lawS5653BWholeSpec : ChangeSpec := { name := "lawS5653BWhole", fn := fun _ => fun
  | [d1, d2, d3] => { results := [.lit (.bool true)], args := [d1, d2, d3] }
  | _ => none }
def lawS5653BWholeRow : OpenClaim := { program := "ybulkdmay", sum := "67bb5e98ade316fae32d1cee9dbcc5a7fa614653a6f6c7acb5d3491c9d62a6ad", func := "example.com/quillet/quillet/lines.LawS5653BWhole", spec := "lawS5653BWhole", apart := false }
def LawS5653BWholeSaid : Prop := lawS5653BWholeRow.holds Yba.pinned (OpenSpec.ofChange lawS5653BWholeSpec)

/-- ITS FALSE NEIGHBOUR: 'it returns false'. Refute it at one input. -/
def lawS5653BWholeWrong : ChangeSpec := { name := "lawS5653BWhole", fn := fun _ => fun
  | [d1, d2, d3] => { results := [.lit (.bool false)], args := [d1, d2, d3] }
  | _ => none }
def LawS5653BWholeWrongFalsely : Prop := lawS5653BWholeRow.holds Yba.pinned (OpenSpec.ofChange lawS5653BWholeWrong)

/-- 'lines.LawS5653BScript': WHATEVER THE INPUT: true; the input reads as it did. -/
def lawS5653BScriptSpec : ChangeSpec := { name := "lawS5653BScript", fn := fun _ => fun
  | [d] => { results := [.lit (.bool true)], args := [d] }
  | _ => none }
def lawS5653BScriptRow : OpenClaim := { program := "ybulkdmay", sum := "67bb5e98ade316fae32d1cee9dbcc5a7fa614653a6f6c7acb5d3491c9d62a6ad", func := "example.com/quillet/quillet/lines.LawS5653BScript", spec := "lawS5653BScript", apart := false }
def LawS5653BScriptSaid : Prop := lawS5653BScriptRow.holds Yba.pinned (OpenSpec.ofChange lawS5653BScriptSpec)

/-- ITS FALSE NEIGHBOUR: 'it returns false'. Refute it at one input. -/
def lawS5653BScriptWrong : ChangeSpec := { name := "lawS5653BScript", fn := fun _ => fun
  | [d] => { results := [.lit (.bool false)], args := [d] }
  | _ => none }
def LawS5653BScriptWrongFalsely : Prop := lawS5653BScriptRow.holds Yba.pinned (OpenSpec.ofChange lawS5653BScriptWrong)

/-- 'engine.LawS5653CWhole': WHATEVER THE INPUT: true; the input reads as it did. -/
def lawS5653CWholeSpec : ChangeSpec := { name := "lawS5653CWhole", fn := fun _ => fun
  | [d1, d2, d3, d4] => { results := [.lit (.bool true)], args := [d1, d2, d3, d4] }
  | _ => none }
def lawS5653CWholeRow : OpenClaim := { program := "ybulkdmay", sum := "67bb5e98ade316fae32d1cee9dbcc5a7fa614653a6f6c7acb5d3491c9d62a6ad", func := "example.com/quillet/quillet/engine.LawS5653CWhole", spec := "lawS5653CWhole", unfollowed := true, recurses := true, apart := false }
def LawS5653CWholeSaid : Prop := lawS5653CWholeRow.holds Yba.pinned (OpenSpec.ofChange lawS5653CWholeSpec)

/-- ITS FALSE NEIGHBOUR: 'it returns false'. Refute it at one input. -/
def lawS5653CWholeWrong : ChangeSpec := { name := "lawS5653CWhole", fn := fun _ => fun
  | [d1, d2, d3, d4] => { results := [.lit (.bool false)], args := [d1, d2, d3, d4] }
  | _ => none }
def LawS5653CWholeWrongFalsely : Prop := lawS5653CWholeRow.holds Yba.pinned (OpenSpec.ofChange lawS5653CWholeWrong)

end Rows
end Go.Proofs.Ybulkdmay
