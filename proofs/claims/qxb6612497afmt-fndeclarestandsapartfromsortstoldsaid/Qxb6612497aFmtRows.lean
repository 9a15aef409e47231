/-
  NARROWER THAN 'FOR EVERY INPUT', by the rows' own cells (each row's printed sentence says how): FnDeclareStandsApartFromSorts: ifaces, laid.
  DERIVED. THE GIVEN ROWS OF THIS SEAT. 1 by the template 'for every input the law returns true; each argument reads behind the call as it read before'; 0 by the template 'total and deterministic' (their statements: Qxb6612497aFmtTotals.lean).
  GIVEN WITH THE SEED: the statements are not yours to turn. If you find one false, say at which input.
  Laid BY PROGRAM, IN A SANDBOX (cutbox-rows.mjs): the forced cells as the released guide's own fill.sh prints them over the translation 2cb302951f45a289… (all of the seat's roots in one cut). By AI agents, Wed Nov 11 2026. No macro, syntax, notation, axiom, sorry.
-/
import Derived.Test.Qxb6612497aFmtChecked
import GoSem.Claim
import GoSem.ClaimJoined
import GoSem.ClaimMapViews
import Derived.JoinedTies
import Derived.KernelRfl
namespace Go.Proofs.Qxb6612497aFmt
/- THE CELL 'sum', in the pinned program and in every row, IS THE sha256 OF THE DUMP (.gsa) THAT Qxb6612497aFmtProg.lean LOADS. Nothing in Lean hashes anything: it is a label: what it is worth is what the hold of that sum in a sandbox is worth. -/
noncomputable def Tryf.pinned : Pinned := { name := "qxb6612497afmt", sum := "2cb302951f45a289ceadb5b7bcc2f8e3fb88801df558fb5536368a4ccc5a4268", checked := Tryf.checked }
namespace Rows
def none {H : Type} : Left H := { results := [], args := [] }

/- WHAT THE LISTED PACKAGE-LEVEL VARIABLES READ AS WHEN THE CALL BEGINS. Each datum BY PROGRAM (the guide's laid-datum.mjs) off the statement by which the dump's own 'gosem.cut.vars' lays the variable. In a bare row this is a premise. The card (Qxb6612497aFmtCards.lean) ties it to the program's text. -/
def laid_example_com_ballotproof_ballotproof_internal_model_ErrRedeclared {H : Type} : DataW H := .iface "*errors.errorString" (.ptr (.agg [.lit (.string [114, 101, 100, 101, 99, 108, 97, 114, 101, 100])]))

/-- 'zzlaws_internal_model_b1.FnDeclareStandsApartFromSorts': WHATEVER THE INPUT: true; the input reads as it did. -/
def fnDeclareStandsApartFromSortsSpec : ChangeSpec := { name := "fnDeclareStandsApartFromSorts", vars := ["example.com/ballotproof/ballotproof/internal/model.ErrRedeclared"], fn := fun _ => fun
  | [d1, d2, d3, g1] => { results := [.lit (.bool true)], args := [d1, d2, d3], vars := [g1] }
  | _ => none }
def fnDeclareStandsApartFromSortsRow : OpenClaim := { program := "qxb6612497afmt", sum := "2cb302951f45a289ceadb5b7bcc2f8e3fb88801df558fb5536368a4ccc5a4268", func := "example.com/ballotproof/ballotproof/zzlaws_internal_model_b1.FnDeclareStandsApartFromSorts", spec := "fnDeclareStandsApartFromSorts", stops := ["fmt.errorf, its operands' methods called", "fmt.Sprintf"], inPlace := ["fmt.errorf"], unfollowed := true, recurses := true, named := ["example.com/ballotproof/ballotproof/internal/model.ErrRedeclared"], ifaces := true, apart := false, laid := [("example.com/ballotproof/ballotproof/internal/model.ErrRedeclared", laid_example_com_ballotproof_ballotproof_internal_model_ErrRedeclared)] }
/-- NO THEOREM (fmt's text is open here; it may be false): for the released tool's asking of the row's closed facts alone. THE STATEMENT IS 'FnDeclareStandsApartFromSortsToldSaid' (Qxb6612497aFmtCards.lean). -/
def FnDeclareStandsApartFromSortsFormAsk : Prop := fnDeclareStandsApartFromSortsRow.holds Tryf.pinned (OpenSpec.ofChange fnDeclareStandsApartFromSortsSpec)

/-- ITS FALSE NEIGHBOUR: 'it returns false'. Refute it at one input. -/
def fnDeclareStandsApartFromSortsWrong : ChangeSpec := { name := "fnDeclareStandsApartFromSorts", vars := ["example.com/ballotproof/ballotproof/internal/model.ErrRedeclared"], fn := fun _ => fun
  | [d1, d2, d3, g1] => { results := [.lit (.bool false)], args := [d1, d2, d3], vars := [g1] }
  | _ => none }
def FnDeclareStandsApartFromSortsWrongFormAsk : Prop := fnDeclareStandsApartFromSortsRow.holds Tryf.pinned (OpenSpec.ofChange fnDeclareStandsApartFromSortsWrong)

end Rows
end Go.Proofs.Qxb6612497aFmt
