/-
  DERIVED. GIVEN WITH THE SEED: THE CARDS: each row of Qxb6612497aFmtRows.lean that lists a variable, with what it lists TIED to the program's text (the seventh form; the later family's looks); each row that meets fmt, with fmt's text TOLD by the authors' own Lean function (tested against real Go, not proved from fmt's source: count such statements apart). THE CARD IS WHAT COUNTS. Prove the row's statement (the work); the ties are given (Qxb6612497aFmtTie.lean); close each card by the builder's one call (the guide's Derived/Test/ToyasCard.lean, 'card_holds'). Laid BY PROGRAM, IN A SANDBOX (cutbox-door.mjs). By AI agents, Wed Nov 11 2026. No macro, syntax, notation, axiom, sorry.
-/
import Derived.Test.Qxb6612497aFmtRows
import GoSem.ClaimSeven
namespace Go.Proofs.Qxb6612497aFmt
namespace Rows

/-- THE TOLD AND TIED CARD OF 'zzlaws_internal_model_b1.FnDeclareStandsApartFromSorts'. -/
def fnDeclareStandsApartFromSortsCard : Claim7 := { stood := { row := fnDeclareStandsApartFromSortsRow, standIns := [], harness := (true, "9f936c89b4b15ffa6adca6b7f45261b9119d78f04f7ff513f5878a8ad4909254"), looks := false }, told := true, laidByText := true, laidKinds := [.sentinel], laidTests := true, laidLooks := .later, goes := false }
def FnDeclareStandsApartFromSortsToldSaid : Prop := Claim7.holds Tryf.pinned (.plain (OpenSpec.ofChange fnDeclareStandsApartFromSortsSpec)) fnDeclareStandsApartFromSortsCard
/-- ITS FALSE NEIGHBOUR. Refute it at one input. -/
def FnDeclareStandsApartFromSortsToldWrongFalsely : Prop := Claim7.holds Tryf.pinned (.plain (OpenSpec.ofChange fnDeclareStandsApartFromSortsWrong)) fnDeclareStandsApartFromSortsCard
end Rows
end Go.Proofs.Qxb6612497aFmt
