/-
  DERIVED. GIVEN WITH THE SEED: THE PROGRAM's TIES (one call each: nine closed facts by the kernel) AND EACH ROW's TIE, after the 31st guide's Derived/Test/Toyas{Tie, Card}.lean. No idea stands in it: it is a product of the set-up. Laid BY PROGRAM, IN A SANDBOX (cutbox-door.mjs). By AI agents, Wed Nov 11 2026. No macro, syntax, notation, axiom, sorry.
-/
import Derived.Test.Qxb6612497aFmtRows
import Derived.LaidByTextLater
import Derived.SevenTiedAt
import Derived.LaidSub
import Derived.LaidOnce
namespace Go.Proofs.Qxb6612497aFmt
open Go
set_option maxRecDepth 100000
theorem seatTie1 : Tryf.prog.laidByTextLater [("example.com/ballotproof/ballotproof/internal/model.ErrRedeclared", Rows.laid_example_com_ballotproof_ballotproof_internal_model_ErrRedeclared)] [.sentinel] true :=
  Program.laidByTextLater_by_one 28 8 2 (by kernel_rfl) (by kernel_rfl) (by kernel_rfl) (by kernel_rfl) (by kernel_rfl) (by kernel_rfl) (fun _ _ => by kernel_rfl)
theorem noOwnUnsafe : Tryf.pinned.checked.prog.headLifts.contains "ownunsafe" = false := by kernel_rfl
theorem tie : Tryf.prog.laidByTextLater [("example.com/ballotproof/ballotproof/internal/model.ErrRedeclared", Rows.laid_example_com_ballotproof_ballotproof_internal_model_ErrRedeclared)] [.sentinel] true :=
  Program.laidByTextLater.sub seatTie1 ["example.com/ballotproof/ballotproof/internal/model.ErrRedeclared"] (by kernel_rfl) (by kernel_rfl)
theorem fnDeclareStandsApartFromSorts_row_tie : Rows.fnDeclareStandsApartFromSortsRow.laidByTextAt .later Tryf.pinned [.sentinel] true :=
  OpenClaim.laidByTextAt_later rfl rfl tie noOwnUnsafe
end Go.Proofs.Qxb6612497aFmt
