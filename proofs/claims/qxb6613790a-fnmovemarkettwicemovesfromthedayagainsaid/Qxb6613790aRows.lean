/-
  No cell of these rows narrows 'for every input' (looked for: loops, veiled, ifaces, maps, wideKeys, modest, calm, conditions, laid).
  DERIVED. THE GIVEN ROWS OF THIS SEAT. 6 by the template 'for every input the law returns true; each argument reads behind the call as it read before'; 0 by the template 'total and deterministic' (their statements: Qxb6613790aTotals.lean).
  GIVEN WITH THE SEED: the statements are not yours to turn. If you find one false, say at which input.
  Laid BY PROGRAM, IN A SANDBOX (cutbox-rows.mjs): the forced cells as the released guide's own fill.sh prints them over the translation 88949e8aa476469d… (all of the seat's roots in one cut). By AI agents, Wed Nov 11 2026. No macro, syntax, notation, axiom, sorry.
-/
import Derived.Test.Qxb6613790aChecked
import GoSem.Claim
import GoSem.ClaimJoined
import GoSem.ClaimMapViews
import Derived.JoinedTies
import Derived.KernelRfl
namespace Go.Proofs.Qxb6613790a
/- THE CELL 'sum', in the pinned program and in every row, IS THE sha256 OF THE DUMP (.gsa) THAT Qxb6613790aProg.lean LOADS. Nothing in Lean hashes anything: it is a label: what it is worth is what the hold of that sum in a sandbox is worth. -/
noncomputable def Try.pinned : Pinned := { name := "qxb6613790a", sum := "88949e8aa476469d6f13c68b79838e63860e8b390d50ec02a721e5f47248f52d", checked := Try.checked }
namespace Rows
def none {H : Type} : Left H := { results := [], args := [] }

/-- 'zzlaws_internal_synthbook_b1.FnShuffleIsOneDataBlindPermutation': WHATEVER THE INPUT: true; the input reads as it did. -/
def fnShuffleIsOneDataBlindPermutationSpec : ChangeSpec := { name := "fnShuffleIsOneDataBlindPermutation", fn := fun _ => fun
  | [d1, d2, d3, d4] => { results := [.lit (.bool true)], args := [d1, d2, d3, d4] }
  | _ => none }
def fnShuffleIsOneDataBlindPermutationRow : OpenClaim := { program := "qxb6613790a", sum := "88949e8aa476469d6f13c68b79838e63860e8b390d50ec02a721e5f47248f52d", func := "example.com/custos/custos/zzlaws_internal_synthbook_b1.FnShuffleIsOneDataBlindPermutation", spec := "fnShuffleIsOneDataBlindPermutation", inPlace := ["math/bits.Add64"], apart := false }
def FnShuffleIsOneDataBlindPermutationSaid : Prop := fnShuffleIsOneDataBlindPermutationRow.holds Try.pinned (OpenSpec.ofChange fnShuffleIsOneDataBlindPermutationSpec)

/-- ITS FALSE NEIGHBOUR: 'it returns false'. Refute it at one input. -/
def fnShuffleIsOneDataBlindPermutationWrong : ChangeSpec := { name := "fnShuffleIsOneDataBlindPermutation", fn := fun _ => fun
  | [d1, d2, d3, d4] => { results := [.lit (.bool false)], args := [d1, d2, d3, d4] }
  | _ => none }
def FnShuffleIsOneDataBlindPermutationWrongFalsely : Prop := fnShuffleIsOneDataBlindPermutationRow.holds Try.pinned (OpenSpec.ofChange fnShuffleIsOneDataBlindPermutationWrong)

/-- 'zzlaws_internal_synthbook_b1.FnShuffleSplitsAtAnyCut': WHATEVER THE INPUT: true; the input reads as it did. -/
def fnShuffleSplitsAtAnyCutSpec : ChangeSpec := { name := "fnShuffleSplitsAtAnyCut", fn := fun _ => fun
  | [d1, d2, d3, d4, d5] => { results := [.lit (.bool true)], args := [d1, d2, d3, d4, d5] }
  | _ => none }
def fnShuffleSplitsAtAnyCutRow : OpenClaim := { program := "qxb6613790a", sum := "88949e8aa476469d6f13c68b79838e63860e8b390d50ec02a721e5f47248f52d", func := "example.com/custos/custos/zzlaws_internal_synthbook_b1.FnShuffleSplitsAtAnyCut", spec := "fnShuffleSplitsAtAnyCut", inPlace := ["math/bits.Add64"], apart := false }
def FnShuffleSplitsAtAnyCutSaid : Prop := fnShuffleSplitsAtAnyCutRow.holds Try.pinned (OpenSpec.ofChange fnShuffleSplitsAtAnyCutSpec)

/-- ITS FALSE NEIGHBOUR: 'it returns false'. Refute it at one input. -/
def fnShuffleSplitsAtAnyCutWrong : ChangeSpec := { name := "fnShuffleSplitsAtAnyCut", fn := fun _ => fun
  | [d1, d2, d3, d4, d5] => { results := [.lit (.bool false)], args := [d1, d2, d3, d4, d5] }
  | _ => none }
def FnShuffleSplitsAtAnyCutWrongFalsely : Prop := fnShuffleSplitsAtAnyCutRow.holds Try.pinned (OpenSpec.ofChange fnShuffleSplitsAtAnyCutWrong)

/-- 'zzlaws_internal_synthbook_b1.FnMoveMarketSplitsAtAnyKind': WHATEVER THE INPUT: true; the input reads as it did. -/
def fnMoveMarketSplitsAtAnyKindSpec : ChangeSpec := { name := "fnMoveMarketSplitsAtAnyKind", fn := fun _ => fun
  | [d1, d2, d3, d4, d5] => { results := [.lit (.bool true)], args := [d1, d2, d3, d4, d5] }
  | _ => none }
def fnMoveMarketSplitsAtAnyKindRow : OpenClaim := { program := "qxb6613790a", sum := "88949e8aa476469d6f13c68b79838e63860e8b390d50ec02a721e5f47248f52d", func := "example.com/custos/custos/zzlaws_internal_synthbook_b1.FnMoveMarketSplitsAtAnyKind", spec := "fnMoveMarketSplitsAtAnyKind", inPlace := ["math/bits.Add64"], apart := false }
def FnMoveMarketSplitsAtAnyKindSaid : Prop := fnMoveMarketSplitsAtAnyKindRow.holds Try.pinned (OpenSpec.ofChange fnMoveMarketSplitsAtAnyKindSpec)

/-- ITS FALSE NEIGHBOUR: 'it returns false'. Refute it at one input. -/
def fnMoveMarketSplitsAtAnyKindWrong : ChangeSpec := { name := "fnMoveMarketSplitsAtAnyKind", fn := fun _ => fun
  | [d1, d2, d3, d4, d5] => { results := [.lit (.bool false)], args := [d1, d2, d3, d4, d5] }
  | _ => none }
def FnMoveMarketSplitsAtAnyKindWrongFalsely : Prop := fnMoveMarketSplitsAtAnyKindRow.holds Try.pinned (OpenSpec.ofChange fnMoveMarketSplitsAtAnyKindWrong)

/-- 'zzlaws_internal_synthbook_b1.FnMoveMarketTwiceMovesFromTheDayAgain': WHATEVER THE INPUT: true; the input reads as it did. -/
def fnMoveMarketTwiceMovesFromTheDayAgainSpec : ChangeSpec := { name := "fnMoveMarketTwiceMovesFromTheDayAgain", fn := fun _ => fun
  | [d1, d2, d3, d4] => { results := [.lit (.bool true)], args := [d1, d2, d3, d4] }
  | _ => none }
def fnMoveMarketTwiceMovesFromTheDayAgainRow : OpenClaim := { program := "qxb6613790a", sum := "88949e8aa476469d6f13c68b79838e63860e8b390d50ec02a721e5f47248f52d", func := "example.com/custos/custos/zzlaws_internal_synthbook_b1.FnMoveMarketTwiceMovesFromTheDayAgain", spec := "fnMoveMarketTwiceMovesFromTheDayAgain", inPlace := ["math/bits.Add64"], apart := false }
def FnMoveMarketTwiceMovesFromTheDayAgainSaid : Prop := fnMoveMarketTwiceMovesFromTheDayAgainRow.holds Try.pinned (OpenSpec.ofChange fnMoveMarketTwiceMovesFromTheDayAgainSpec)

/-- ITS FALSE NEIGHBOUR: 'it returns false'. Refute it at one input. -/
def fnMoveMarketTwiceMovesFromTheDayAgainWrong : ChangeSpec := { name := "fnMoveMarketTwiceMovesFromTheDayAgain", fn := fun _ => fun
  | [d1, d2, d3, d4] => { results := [.lit (.bool false)], args := [d1, d2, d3, d4] }
  | _ => none }
def FnMoveMarketTwiceMovesFromTheDayAgainWrongFalsely : Prop := fnMoveMarketTwiceMovesFromTheDayAgainRow.holds Try.pinned (OpenSpec.ofChange fnMoveMarketTwiceMovesFromTheDayAgainWrong)

/-- 'zzlaws_internal_synthbook_b1.FnBuyOfGrowsWithTotal': WHATEVER THE INPUT: true; the input reads as it did. -/
def fnBuyOfGrowsWithTotalSpec : ChangeSpec := { name := "fnBuyOfGrowsWithTotal", fn := fun _ => fun
  | [d1, d2, d3, d4, d5, d6] => { results := [.lit (.bool true)], args := [d1, d2, d3, d4, d5, d6] }
  | _ => none }
def fnBuyOfGrowsWithTotalRow : OpenClaim := { program := "qxb6613790a", sum := "88949e8aa476469d6f13c68b79838e63860e8b390d50ec02a721e5f47248f52d", func := "example.com/custos/custos/zzlaws_internal_synthbook_b1.FnBuyOfGrowsWithTotal", spec := "fnBuyOfGrowsWithTotal", inPlace := ["math/bits.Add64"], apart := false }
def FnBuyOfGrowsWithTotalSaid : Prop := fnBuyOfGrowsWithTotalRow.holds Try.pinned (OpenSpec.ofChange fnBuyOfGrowsWithTotalSpec)

/-- ITS FALSE NEIGHBOUR: 'it returns false'. Refute it at one input. -/
def fnBuyOfGrowsWithTotalWrong : ChangeSpec := { name := "fnBuyOfGrowsWithTotal", fn := fun _ => fun
  | [d1, d2, d3, d4, d5, d6] => { results := [.lit (.bool false)], args := [d1, d2, d3, d4, d5, d6] }
  | _ => none }
def FnBuyOfGrowsWithTotalWrongFalsely : Prop := fnBuyOfGrowsWithTotalRow.holds Try.pinned (OpenSpec.ofChange fnBuyOfGrowsWithTotalWrong)

/-- 'zzlaws_internal_synthbook_b1.FnBuyOfIsPricedByValue': WHATEVER THE INPUT: true; the input reads as it did. -/
def fnBuyOfIsPricedByValueSpec : ChangeSpec := { name := "fnBuyOfIsPricedByValue", fn := fun _ => fun
  | [d1, d2, d3, d4, d5, d6] => { results := [.lit (.bool true)], args := [d1, d2, d3, d4, d5, d6] }
  | _ => none }
def fnBuyOfIsPricedByValueRow : OpenClaim := { program := "qxb6613790a", sum := "88949e8aa476469d6f13c68b79838e63860e8b390d50ec02a721e5f47248f52d", func := "example.com/custos/custos/zzlaws_internal_synthbook_b1.FnBuyOfIsPricedByValue", spec := "fnBuyOfIsPricedByValue", inPlace := ["math/bits.Add64"], apart := false }
def FnBuyOfIsPricedByValueSaid : Prop := fnBuyOfIsPricedByValueRow.holds Try.pinned (OpenSpec.ofChange fnBuyOfIsPricedByValueSpec)

/-- ITS FALSE NEIGHBOUR: 'it returns false'. Refute it at one input. -/
def fnBuyOfIsPricedByValueWrong : ChangeSpec := { name := "fnBuyOfIsPricedByValue", fn := fun _ => fun
  | [d1, d2, d3, d4, d5, d6] => { results := [.lit (.bool false)], args := [d1, d2, d3, d4, d5, d6] }
  | _ => none }
def FnBuyOfIsPricedByValueWrongFalsely : Prop := fnBuyOfIsPricedByValueRow.holds Try.pinned (OpenSpec.ofChange fnBuyOfIsPricedByValueWrong)

end Rows
end Go.Proofs.Qxb6613790a
