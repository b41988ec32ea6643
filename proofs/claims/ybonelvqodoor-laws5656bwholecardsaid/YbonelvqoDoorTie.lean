/-
  DERIVED. GIVEN WITH THE SEED: THE PROGRAM's TIES (one call each: nine closed facts by the kernel) AND EACH ROW's TIE, after the 31st guide's Derived/Test/Toyas{Tie, Card}.lean. No idea stands in it: it is a product of the set-up. Laid BY PROGRAM, IN A SANDBOX (cutbox-door.mjs). By AI agents, Wed Nov 11 2026. No macro, syntax, notation, axiom, sorry.
-/
import Derived.Test.YbonelvqoDoorRows
import Derived.LaidByTextLater
import Derived.SevenTiedAt
import Derived.LaidSub
import Derived.LaidOnce
namespace Go.Proofs.YbonelvqoDoor
open Go
set_option maxRecDepth 100000
theorem seatTie1 : Ybgs.prog.laidByTextLater [("example.com/tuoguan/tuoguan/securities.types", Rows.laid_example_com_tuoguan_tuoguan_securities_types)] [.data] true :=
  Program.laidByTextLater_by_one 17 8 7 (by kernel_rfl) (by kernel_rfl) (by kernel_rfl) (by kernel_rfl) (by kernel_rfl) (by kernel_rfl) (fun _ _ => by kernel_rfl)
theorem noOwnUnsafe : Ybgs.pinned.checked.prog.headLifts.contains "ownunsafe" = false := by kernel_rfl
theorem tie : Ybgs.prog.laidByTextLater [("example.com/tuoguan/tuoguan/securities.types", Rows.laid_example_com_tuoguan_tuoguan_securities_types)] [.data] true :=
  Program.laidByTextLater.sub seatTie1 ["example.com/tuoguan/tuoguan/securities.types"] (by kernel_rfl) (by kernel_rfl)
theorem lawS5656BWhole_row_tie : Rows.lawS5656BWholeRow.laidByTextAt .later Ybgs.pinned [.data] true :=
  OpenClaim.laidByTextAt_later rfl rfl tie noOwnUnsafe
end Go.Proofs.YbonelvqoDoor
