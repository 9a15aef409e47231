/-
  No cell of these rows narrows 'for every input' (looked for: loops, veiled, ifaces, maps, wideKeys, modest, calm, conditions, laid).
  DERIVED. THE GIVEN ROWS OF THIS SEAT. 2 by the template 'for every input the law returns true; each argument reads behind the call as it read before'; 0 by the template 'total and deterministic' (their statements: Qxb6613788aTotals.lean).
  GIVEN WITH THE SEED: the statements are not yours to turn. If you find one false, say at which input.
  Laid BY PROGRAM, IN A SANDBOX (cutbox-rows.mjs): the forced cells as the released guide's own fill.sh prints them over the translation 83484a2276344e84… (all of the seat's roots in one cut). By AI agents, Wed Nov 11 2026. No macro, syntax, notation, axiom, sorry.
-/
import Derived.Test.Qxb6613788aChecked
import GoSem.Claim
import GoSem.ClaimJoined
import GoSem.ClaimMapViews
import Derived.JoinedTies
import Derived.KernelRfl
namespace Go.Proofs.Qxb6613788a
/- THE CELL 'sum', in the pinned program and in every row, IS THE sha256 OF THE DUMP (.gsa) THAT Qxb6613788aProg.lean LOADS. Nothing in Lean hashes anything: it is a label: what it is worth is what the hold of that sum in a sandbox is worth. -/
noncomputable def Try.pinned : Pinned := { name := "qxb6613788a", sum := "83484a2276344e841e5b70d8a20d9e17fec9f1ff6189759c86e83dd95a2581c1", checked := Try.checked }
namespace Rows
def none {H : Type} : Left H := { results := [], args := [] }

/-- 'zzlaws_client_b1.FnStatusCountsTodayOnlyUntilTheRecordedDayPasses': WHATEVER THE INPUT: true; the input reads as it did. -/
def fnStatusCountsTodayOnlyUntilTheRecordedDayPassesSpec : ChangeSpec := { name := "fnStatusCountsTodayOnlyUntilTheRecordedDayPasses", fn := fun _ => fun
  | [d1, d2, d3, d4, d5, d6, d7, d8, d9] => { results := [.lit (.bool true)], args := [d1, d2, d3, d4, d5, d6, d7, d8, d9] }
  | _ => none }
def fnStatusCountsTodayOnlyUntilTheRecordedDayPassesRow : OpenClaim := { program := "qxb6613788a", sum := "83484a2276344e841e5b70d8a20d9e17fec9f1ff6189759c86e83dd95a2581c1", func := "example.com/tallykey/tallykey/zzlaws_client_b1.FnStatusCountsTodayOnlyUntilTheRecordedDayPasses", spec := "fnStatusCountsTodayOnlyUntilTheRecordedDayPasses", apart := false }
def FnStatusCountsTodayOnlyUntilTheRecordedDayPassesSaid : Prop := fnStatusCountsTodayOnlyUntilTheRecordedDayPassesRow.holds Try.pinned (OpenSpec.ofChange fnStatusCountsTodayOnlyUntilTheRecordedDayPassesSpec)

/-- ITS FALSE NEIGHBOUR: 'it returns false'. Refute it at one input. -/
def fnStatusCountsTodayOnlyUntilTheRecordedDayPassesWrong : ChangeSpec := { name := "fnStatusCountsTodayOnlyUntilTheRecordedDayPasses", fn := fun _ => fun
  | [d1, d2, d3, d4, d5, d6, d7, d8, d9] => { results := [.lit (.bool false)], args := [d1, d2, d3, d4, d5, d6, d7, d8, d9] }
  | _ => none }
def FnStatusCountsTodayOnlyUntilTheRecordedDayPassesWrongFalsely : Prop := fnStatusCountsTodayOnlyUntilTheRecordedDayPassesRow.holds Try.pinned (OpenSpec.ofChange fnStatusCountsTodayOnlyUntilTheRecordedDayPassesWrong)

/-- 'zzlaws_client_b1.FnStatusChargeMovesUsedAndRemainingByTheCharge': WHATEVER THE INPUT: true; the input reads as it did. -/
def fnStatusChargeMovesUsedAndRemainingByTheChargeSpec : ChangeSpec := { name := "fnStatusChargeMovesUsedAndRemainingByTheCharge", fn := fun _ => fun
  | [d1, d2, d3, d4, d5, d6, d7, d8, d9, d10] => { results := [.lit (.bool true)], args := [d1, d2, d3, d4, d5, d6, d7, d8, d9, d10] }
  | _ => none }
def fnStatusChargeMovesUsedAndRemainingByTheChargeRow : OpenClaim := { program := "qxb6613788a", sum := "83484a2276344e841e5b70d8a20d9e17fec9f1ff6189759c86e83dd95a2581c1", func := "example.com/tallykey/tallykey/zzlaws_client_b1.FnStatusChargeMovesUsedAndRemainingByTheCharge", spec := "fnStatusChargeMovesUsedAndRemainingByTheCharge", apart := false }
def FnStatusChargeMovesUsedAndRemainingByTheChargeSaid : Prop := fnStatusChargeMovesUsedAndRemainingByTheChargeRow.holds Try.pinned (OpenSpec.ofChange fnStatusChargeMovesUsedAndRemainingByTheChargeSpec)

/-- ITS FALSE NEIGHBOUR: 'it returns false'. Refute it at one input. -/
def fnStatusChargeMovesUsedAndRemainingByTheChargeWrong : ChangeSpec := { name := "fnStatusChargeMovesUsedAndRemainingByTheCharge", fn := fun _ => fun
  | [d1, d2, d3, d4, d5, d6, d7, d8, d9, d10] => { results := [.lit (.bool false)], args := [d1, d2, d3, d4, d5, d6, d7, d8, d9, d10] }
  | _ => none }
def FnStatusChargeMovesUsedAndRemainingByTheChargeWrongFalsely : Prop := fnStatusChargeMovesUsedAndRemainingByTheChargeRow.holds Try.pinned (OpenSpec.ofChange fnStatusChargeMovesUsedAndRemainingByTheChargeWrong)

end Rows
end Go.Proofs.Qxb6613788a
