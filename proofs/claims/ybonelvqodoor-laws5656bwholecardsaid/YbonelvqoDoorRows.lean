/-
  NARROWER THAN 'FOR EVERY INPUT', by the rows' own cells (each row's printed sentence says how): LawS5656BWhole: laid.
  DERIVED. THE GIVEN ROWS OF THIS SEAT. 1 by the template 'for every input the law returns true; each argument reads behind the call as it read before'; 0 by the template 'total and deterministic' (their statements: YbonelvqoDoorTotals.lean).
  GIVEN WITH THE SEED: the statements are not yours to turn. If you find one false, say at which input.
  Laid BY PROGRAM, IN A SANDBOX (cutbox-rows.mjs): the forced cells as the released guide's own fill.sh prints them over the translation e4026b9a4c5ccc18… (all of the seat's roots in one cut). By AI agents, Wed Nov 11 2026. No macro, syntax, notation, axiom, sorry.
-/
import Derived.Test.YbonelvqoDoorChecked
import GoSem.Claim
import GoSem.ClaimJoined
import GoSem.ClaimMapViews
import Derived.JoinedTies
import Derived.KernelRfl
namespace Go.Proofs.YbonelvqoDoor
/- THE CELL 'sum', in the pinned program and in every row, IS THE sha256 OF THE DUMP (.gsa) THAT YbonelvqoDoorProg.lean LOADS. Nothing in Lean hashes anything: it is a label: what it is worth is what the hold of that sum in a sandbox is worth. -/
noncomputable def Ybgs.pinned : Pinned := { name := "ybonelvqodoor", sum := "e4026b9a4c5ccc1802e614c05f04d52b76c1ee864f55c28fafbe5f23a69521cf", checked := Ybgs.checked }
namespace Rows
def none {H : Type} : Left H := { results := [], args := [] }

/- WHAT THE LISTED PACKAGE-LEVEL VARIABLES READ AS WHEN THE CALL BEGINS. Each datum BY PROGRAM (the guide's laid-datum.mjs) off the statement by which the dump's own 'gosem.cut.vars' lays the variable. In a bare row this is a premise. The card (YbonelvqoDoorCards.lean) ties it to the program's text. -/
def laid_example_com_tuoguan_tuoguan_securities_types {H : Type} : DataW H := .slice [.agg [.lit (.string [115, 116, 111, 99, 107]), .lit (.int .i64 0)], .agg [.lit (.string [98, 111, 110, 100]), .lit (.int .i64 1)], .agg [.lit (.string [108, 105, 115, 116, 101, 100, 95, 102, 117, 110, 100]), .lit (.int .i64 0)]] []

/-- 'securities.LawS5656BWhole': WHATEVER THE INPUT: true; the input reads as it did. -/
def lawS5656BWholeSpec : ChangeSpec := { name := "lawS5656BWhole", vars := ["example.com/tuoguan/tuoguan/securities.types"], fn := fun _ => fun
  | [d1, d2, d3, d4, d5, d6, g1] => { results := [.lit (.bool true)], args := [d1, d2, d3, d4, d5, d6], vars := [g1] }
  | _ => none }
def lawS5656BWholeRow : OpenClaim := { program := "ybonelvqodoor", sum := "e4026b9a4c5ccc1802e614c05f04d52b76c1ee864f55c28fafbe5f23a69521cf", func := "example.com/tuoguan/tuoguan/securities.LawS5656BWhole", spec := "lawS5656BWhole", named := ["example.com/tuoguan/tuoguan/securities.types"], apart := false, laid := [("example.com/tuoguan/tuoguan/securities.types", laid_example_com_tuoguan_tuoguan_securities_types)] }
def LawS5656BWholeSaid : Prop := lawS5656BWholeRow.holds Ybgs.pinned (OpenSpec.ofChange lawS5656BWholeSpec)

/-- ITS FALSE NEIGHBOUR: 'it returns false'. Refute it at one input. -/
def lawS5656BWholeWrong : ChangeSpec := { name := "lawS5656BWhole", vars := ["example.com/tuoguan/tuoguan/securities.types"], fn := fun _ => fun
  | [d1, d2, d3, d4, d5, d6, g1] => { results := [.lit (.bool false)], args := [d1, d2, d3, d4, d5, d6], vars := [g1] }
  | _ => none }
def LawS5656BWholeWrongFalsely : Prop := lawS5656BWholeRow.holds Ybgs.pinned (OpenSpec.ofChange lawS5656BWholeWrong)

end Rows
end Go.Proofs.YbonelvqoDoor
