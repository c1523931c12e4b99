/-
  No cell of these rows narrows 'for every input' (looked for: loops, veiled, ifaces, maps, wideKeys, modest, calm, conditions, laid).
  DERIVED. THE GIVEN ROWS OF THIS SEAT. 19 by the template 'for every input the law returns true; each argument reads behind the call as it read before'; 0 by the template 'total and deterministic' (their statements: YtpojonfopoobpaaTotals.lean).
  GIVEN WITH THE SEED: the statements are not yours to turn. If you find one false, say at which input.
  Laid BY PROGRAM, IN A SANDBOX (cutbox-rows.mjs): the forced cells as the released guide's own fill.sh prints them over the translation 3df523e48eb25245… (all of the seat's roots in one cut). By AI agents, Wed Nov 11 2026. No macro, syntax, notation, axiom, sorry.
-/
import Derived.Test.YtpojonfopoobpaaChecked
import GoSem.Claim
import GoSem.ClaimJoined
import GoSem.ClaimMapViews
import Derived.JoinedTies
import Derived.KernelRfl
namespace Go.Proofs.Ytpojonfopoobpaa
/- THE CELL 'sum', in the pinned program and in every row, IS THE sha256 OF THE DUMP (.gsa) THAT YtpojonfopoobpaaProg.lean LOADS. Nothing in Lean hashes anything: it is a label: what it is worth is what the hold of that sum in a sandbox is worth. -/
noncomputable def Try.pinned : Pinned := { name := "ytpojonfopoobpaa", sum := "3df523e48eb25245e71441c5d09cd468b2555b899804da7f2b382fc0fc674dfa", checked := Try.checked }
namespace Rows
def none {H : Type} : Left H := { results := [], args := [] }

/-- 'laws.FnRunBack': WHATEVER THE INPUT: true; the input reads as it did. -/
def fnRunBackSpec : ChangeSpec := { name := "fnRunBack", fn := fun _ => fun
  | [d1, d2, d3] => { results := [.lit (.bool true)], args := [d1, d2, d3] }
  | _ => none }
def fnRunBackRow : OpenClaim := { program := "ytpojonfopoobpaa", sum := "3df523e48eb25245e71441c5d09cd468b2555b899804da7f2b382fc0fc674dfa", func := "loop.example/pub-g03333/laws.FnRunBack", spec := "fnRunBack", inPlace := ["math/bits.Sub64", "math/bits.Add64"], apart := false }
def FnRunBackSaid : Prop := fnRunBackRow.holds Try.pinned (OpenSpec.ofChange fnRunBackSpec)

/-- ITS FALSE NEIGHBOUR: 'it returns false'. Refute it at one input. -/
def fnRunBackWrong : ChangeSpec := { name := "fnRunBack", fn := fun _ => fun
  | [d1, d2, d3] => { results := [.lit (.bool false)], args := [d1, d2, d3] }
  | _ => none }
def FnRunBackWrongFalsely : Prop := fnRunBackRow.holds Try.pinned (OpenSpec.ofChange fnRunBackWrong)

/-- 'laws.FnExpProduct': WHATEVER THE INPUT: true; the input reads as it did. -/
def fnExpProductSpec : ChangeSpec := { name := "fnExpProduct", fn := fun _ => fun
  | [d1, d2, d3, d4] => { results := [.lit (.bool true)], args := [d1, d2, d3, d4] }
  | _ => none }
def fnExpProductRow : OpenClaim := { program := "ytpojonfopoobpaa", sum := "3df523e48eb25245e71441c5d09cd468b2555b899804da7f2b382fc0fc674dfa", func := "loop.example/pub-g03333/laws.FnExpProduct", spec := "fnExpProduct", inPlace := ["math/bits.Sub64", "math/bits.Add64"], apart := false }
def FnExpProductSaid : Prop := fnExpProductRow.holds Try.pinned (OpenSpec.ofChange fnExpProductSpec)

/-- ITS FALSE NEIGHBOUR: 'it returns false'. Refute it at one input. -/
def fnExpProductWrong : ChangeSpec := { name := "fnExpProduct", fn := fun _ => fun
  | [d1, d2, d3, d4] => { results := [.lit (.bool false)], args := [d1, d2, d3, d4] }
  | _ => none }
def FnExpProductWrongFalsely : Prop := fnExpProductRow.holds Try.pinned (OpenSpec.ofChange fnExpProductWrong)

/-- 'laws.FnModProduct': WHATEVER THE INPUT: true; the input reads as it did. -/
def fnModProductSpec : ChangeSpec := { name := "fnModProduct", fn := fun _ => fun
  | [d1, d2, d3] => { results := [.lit (.bool true)], args := [d1, d2, d3] }
  | _ => none }
def fnModProductRow : OpenClaim := { program := "ytpojonfopoobpaa", sum := "3df523e48eb25245e71441c5d09cd468b2555b899804da7f2b382fc0fc674dfa", func := "loop.example/pub-g03333/laws.FnModProduct", spec := "fnModProduct", inPlace := ["math/bits.Add64", "math/bits.Sub64"], apart := false }
def FnModProductSaid : Prop := fnModProductRow.holds Try.pinned (OpenSpec.ofChange fnModProductSpec)

/-- ITS FALSE NEIGHBOUR: 'it returns false'. Refute it at one input. -/
def fnModProductWrong : ChangeSpec := { name := "fnModProduct", fn := fun _ => fun
  | [d1, d2, d3] => { results := [.lit (.bool false)], args := [d1, d2, d3] }
  | _ => none }
def FnModProductWrongFalsely : Prop := fnModProductRow.holds Try.pinned (OpenSpec.ofChange fnModProductWrong)

/-- 'laws.FnFermat': WHATEVER THE INPUT: true; the input reads as it did. -/
def fnFermatSpec : ChangeSpec := { name := "fnFermat", fn := fun _ => fun
  | [d1, d2] => { results := [.lit (.bool true)], args := [d1, d2] }
  | _ => none }
def fnFermatRow : OpenClaim := { program := "ytpojonfopoobpaa", sum := "3df523e48eb25245e71441c5d09cd468b2555b899804da7f2b382fc0fc674dfa", func := "loop.example/pub-g03333/laws.FnFermat", spec := "fnFermat", inPlace := ["math/bits.Sub64", "math/bits.Add64"], apart := false }
def FnFermatSaid : Prop := fnFermatRow.holds Try.pinned (OpenSpec.ofChange fnFermatSpec)

/-- ITS FALSE NEIGHBOUR: 'it returns false'. Refute it at one input. -/
def fnFermatWrong : ChangeSpec := { name := "fnFermat", fn := fun _ => fun
  | [d1, d2] => { results := [.lit (.bool false)], args := [d1, d2] }
  | _ => none }
def FnFermatWrongFalsely : Prop := fnFermatRow.holds Try.pinned (OpenSpec.ofChange fnFermatWrong)

/-- 'laws.FnModTwice': WHATEVER THE INPUT: true; the input reads as it did. -/
def fnModTwiceSpec : ChangeSpec := { name := "fnModTwice", fn := fun _ => fun
  | [d1, d2] => { results := [.lit (.bool true)], args := [d1, d2] }
  | _ => none }
def fnModTwiceRow : OpenClaim := { program := "ytpojonfopoobpaa", sum := "3df523e48eb25245e71441c5d09cd468b2555b899804da7f2b382fc0fc674dfa", func := "loop.example/pub-g03333/laws.FnModTwice", spec := "fnModTwice", inPlace := ["math/bits.Sub64", "math/bits.Add64"], apart := false }
def FnModTwiceSaid : Prop := fnModTwiceRow.holds Try.pinned (OpenSpec.ofChange fnModTwiceSpec)

/-- ITS FALSE NEIGHBOUR: 'it returns false'. Refute it at one input. -/
def fnModTwiceWrong : ChangeSpec := { name := "fnModTwice", fn := fun _ => fun
  | [d1, d2] => { results := [.lit (.bool false)], args := [d1, d2] }
  | _ => none }
def FnModTwiceWrongFalsely : Prop := fnModTwiceRow.holds Try.pinned (OpenSpec.ofChange fnModTwiceWrong)

/-- 'laws.FnOverflowing': WHATEVER THE INPUT: true; the input reads as it did. -/
def fnOverflowingSpec : ChangeSpec := { name := "fnOverflowing", fn := fun _ => fun
  | [d1, d2] => { results := [.lit (.bool true)], args := [d1, d2] }
  | _ => none }
def fnOverflowingRow : OpenClaim := { program := "ytpojonfopoobpaa", sum := "3df523e48eb25245e71441c5d09cd468b2555b899804da7f2b382fc0fc674dfa", func := "loop.example/pub-g03333/laws.FnOverflowing", spec := "fnOverflowing", inPlace := ["math/bits.Sub64", "math/bits.Add64"], apart := false }
def FnOverflowingSaid : Prop := fnOverflowingRow.holds Try.pinned (OpenSpec.ofChange fnOverflowingSpec)

/-- ITS FALSE NEIGHBOUR: 'it returns false'. Refute it at one input. -/
def fnOverflowingWrong : ChangeSpec := { name := "fnOverflowing", fn := fun _ => fun
  | [d1, d2] => { results := [.lit (.bool false)], args := [d1, d2] }
  | _ => none }
def FnOverflowingWrongFalsely : Prop := fnOverflowingRow.holds Try.pinned (OpenSpec.ofChange fnOverflowingWrong)

/-- 'laws.FnExpRoads': WHATEVER THE INPUT: true; the input reads as it did. -/
def fnExpRoadsSpec : ChangeSpec := { name := "fnExpRoads", fn := fun _ => fun
  | [d1, d2, d3, d4] => { results := [.lit (.bool true)], args := [d1, d2, d3, d4] }
  | _ => none }
def fnExpRoadsRow : OpenClaim := { program := "ytpojonfopoobpaa", sum := "3df523e48eb25245e71441c5d09cd468b2555b899804da7f2b382fc0fc674dfa", func := "loop.example/pub-g03333/laws.FnExpRoads", spec := "fnExpRoads", inPlace := ["math/bits.Sub64", "math/bits.Add64"], apart := false }
def FnExpRoadsSaid : Prop := fnExpRoadsRow.holds Try.pinned (OpenSpec.ofChange fnExpRoadsSpec)

/-- ITS FALSE NEIGHBOUR: 'it returns false'. Refute it at one input. -/
def fnExpRoadsWrong : ChangeSpec := { name := "fnExpRoads", fn := fun _ => fun
  | [d1, d2, d3, d4] => { results := [.lit (.bool false)], args := [d1, d2, d3, d4] }
  | _ => none }
def FnExpRoadsWrongFalsely : Prop := fnExpRoadsRow.holds Try.pinned (OpenSpec.ofChange fnExpRoadsWrong)

/-- 'laws.FnPadding': WHATEVER THE INPUT: true; the input reads as it did. -/
def fnPaddingSpec : ChangeSpec := { name := "fnPadding", fn := fun _ => fun
  | [d1, d2, d3, d4] => { results := [.lit (.bool true)], args := [d1, d2, d3, d4] }
  | _ => none }
def fnPaddingRow : OpenClaim := { program := "ytpojonfopoobpaa", sum := "3df523e48eb25245e71441c5d09cd468b2555b899804da7f2b382fc0fc674dfa", func := "loop.example/pub-g03333/laws.FnPadding", spec := "fnPadding", inPlace := ["math/bits.Sub64", "math/bits.Add64"], apart := false }
def FnPaddingSaid : Prop := fnPaddingRow.holds Try.pinned (OpenSpec.ofChange fnPaddingSpec)

/-- ITS FALSE NEIGHBOUR: 'it returns false'. Refute it at one input. -/
def fnPaddingWrong : ChangeSpec := { name := "fnPadding", fn := fun _ => fun
  | [d1, d2, d3, d4] => { results := [.lit (.bool false)], args := [d1, d2, d3, d4] }
  | _ => none }
def FnPaddingWrongFalsely : Prop := fnPaddingRow.holds Try.pinned (OpenSpec.ofChange fnPaddingWrong)

/-- 'laws.FnModByte': WHATEVER THE INPUT: true; the input reads as it did. -/
def fnModByteSpec : ChangeSpec := { name := "fnModByte", fn := fun _ => fun
  | [d1, d2] => { results := [.lit (.bool true)], args := [d1, d2] }
  | _ => none }
def fnModByteRow : OpenClaim := { program := "ytpojonfopoobpaa", sum := "3df523e48eb25245e71441c5d09cd468b2555b899804da7f2b382fc0fc674dfa", func := "loop.example/pub-g03333/laws.FnModByte", spec := "fnModByte", inPlace := ["math/bits.Sub64", "math/bits.Add64"], apart := false }
def FnModByteSaid : Prop := fnModByteRow.holds Try.pinned (OpenSpec.ofChange fnModByteSpec)

/-- ITS FALSE NEIGHBOUR: 'it returns false'. Refute it at one input. -/
def fnModByteWrong : ChangeSpec := { name := "fnModByte", fn := fun _ => fun
  | [d1, d2] => { results := [.lit (.bool false)], args := [d1, d2] }
  | _ => none }
def FnModByteWrongFalsely : Prop := fnModByteRow.holds Try.pinned (OpenSpec.ofChange fnModByteWrong)

/-- 'laws.FnGCDTimes': WHATEVER THE INPUT: true; the input reads as it did. -/
def fnGCDTimesSpec : ChangeSpec := { name := "fnGCDTimes", fn := fun _ => fun
  | [d1, d2, d3] => { results := [.lit (.bool true)], args := [d1, d2, d3] }
  | _ => none }
def fnGCDTimesRow : OpenClaim := { program := "ytpojonfopoobpaa", sum := "3df523e48eb25245e71441c5d09cd468b2555b899804da7f2b382fc0fc674dfa", func := "loop.example/pub-g03333/laws.FnGCDTimes", spec := "fnGCDTimes", inPlace := ["math/bits.Add64", "math/bits.Sub64"], unfollowed := true, recurses := true, apart := false }
def FnGCDTimesSaid : Prop := fnGCDTimesRow.holds Try.pinned (OpenSpec.ofChange fnGCDTimesSpec)

/-- ITS FALSE NEIGHBOUR: 'it returns false'. Refute it at one input. -/
def fnGCDTimesWrong : ChangeSpec := { name := "fnGCDTimes", fn := fun _ => fun
  | [d1, d2, d3] => { results := [.lit (.bool false)], args := [d1, d2, d3] }
  | _ => none }
def FnGCDTimesWrongFalsely : Prop := fnGCDTimesRow.holds Try.pinned (OpenSpec.ofChange fnGCDTimesWrong)

/-- 'laws.FnDivMod': WHATEVER THE INPUT: true; the input reads as it did. -/
def fnDivModSpec : ChangeSpec := { name := "fnDivMod", fn := fun _ => fun
  | [d1, d2] => { results := [.lit (.bool true)], args := [d1, d2] }
  | _ => none }
def fnDivModRow : OpenClaim := { program := "ytpojonfopoobpaa", sum := "3df523e48eb25245e71441c5d09cd468b2555b899804da7f2b382fc0fc674dfa", func := "loop.example/pub-g03333/laws.FnDivMod", spec := "fnDivMod", inPlace := ["math/bits.Sub64", "math/bits.Add64"], apart := false }
def FnDivModSaid : Prop := fnDivModRow.holds Try.pinned (OpenSpec.ofChange fnDivModSpec)

/-- ITS FALSE NEIGHBOUR: 'it returns false'. Refute it at one input. -/
def fnDivModWrong : ChangeSpec := { name := "fnDivMod", fn := fun _ => fun
  | [d1, d2] => { results := [.lit (.bool false)], args := [d1, d2] }
  | _ => none }
def FnDivModWrongFalsely : Prop := fnDivModRow.holds Try.pinned (OpenSpec.ofChange fnDivModWrong)

/-- 'laws.FnWidth': WHATEVER THE INPUT: true; the input reads as it did. -/
def fnWidthSpec : ChangeSpec := { name := "fnWidth", fn := fun _ => fun
  | [d1, d2, d3] => { results := [.lit (.bool true)], args := [d1, d2, d3] }
  | _ => none }
def fnWidthRow : OpenClaim := { program := "ytpojonfopoobpaa", sum := "3df523e48eb25245e71441c5d09cd468b2555b899804da7f2b382fc0fc674dfa", func := "loop.example/pub-g03333/laws.FnWidth", spec := "fnWidth", inPlace := ["math/bits.Sub64", "math/bits.Add64"], apart := false }
def FnWidthSaid : Prop := fnWidthRow.holds Try.pinned (OpenSpec.ofChange fnWidthSpec)

/-- ITS FALSE NEIGHBOUR: 'it returns false'. Refute it at one input. -/
def fnWidthWrong : ChangeSpec := { name := "fnWidth", fn := fun _ => fun
  | [d1, d2, d3] => { results := [.lit (.bool false)], args := [d1, d2, d3] }
  | _ => none }
def FnWidthWrongFalsely : Prop := fnWidthRow.holds Try.pinned (OpenSpec.ofChange fnWidthWrong)

/-- 'laws.FnExpBase': WHATEVER THE INPUT: true; the input reads as it did. -/
def fnExpBaseSpec : ChangeSpec := { name := "fnExpBase", fn := fun _ => fun
  | [d1, d2, d3, d4] => { results := [.lit (.bool true)], args := [d1, d2, d3, d4] }
  | _ => none }
def fnExpBaseRow : OpenClaim := { program := "ytpojonfopoobpaa", sum := "3df523e48eb25245e71441c5d09cd468b2555b899804da7f2b382fc0fc674dfa", func := "loop.example/pub-g03333/laws.FnExpBase", spec := "fnExpBase", inPlace := ["math/bits.Sub64", "math/bits.Add64"], apart := false }
def FnExpBaseSaid : Prop := fnExpBaseRow.holds Try.pinned (OpenSpec.ofChange fnExpBaseSpec)

/-- ITS FALSE NEIGHBOUR: 'it returns false'. Refute it at one input. -/
def fnExpBaseWrong : ChangeSpec := { name := "fnExpBase", fn := fun _ => fun
  | [d1, d2, d3, d4] => { results := [.lit (.bool false)], args := [d1, d2, d3, d4] }
  | _ => none }
def FnExpBaseWrongFalsely : Prop := fnExpBaseRow.holds Try.pinned (OpenSpec.ofChange fnExpBaseWrong)

/-- 'laws.FnExpSum': WHATEVER THE INPUT: true; the input reads as it did. -/
def fnExpSumSpec : ChangeSpec := { name := "fnExpSum", fn := fun _ => fun
  | [d1, d2, d3, d4] => { results := [.lit (.bool true)], args := [d1, d2, d3, d4] }
  | _ => none }
def fnExpSumRow : OpenClaim := { program := "ytpojonfopoobpaa", sum := "3df523e48eb25245e71441c5d09cd468b2555b899804da7f2b382fc0fc674dfa", func := "loop.example/pub-g03333/laws.FnExpSum", spec := "fnExpSum", inPlace := ["math/bits.Sub64", "math/bits.Add64"], apart := false }
def FnExpSumSaid : Prop := fnExpSumRow.holds Try.pinned (OpenSpec.ofChange fnExpSumSpec)

/-- ITS FALSE NEIGHBOUR: 'it returns false'. Refute it at one input. -/
def fnExpSumWrong : ChangeSpec := { name := "fnExpSum", fn := fun _ => fun
  | [d1, d2, d3, d4] => { results := [.lit (.bool false)], args := [d1, d2, d3, d4] }
  | _ => none }
def FnExpSumWrongFalsely : Prop := fnExpSumRow.holds Try.pinned (OpenSpec.ofChange fnExpSumWrong)

/-- 'laws.FnInverseGCD': WHATEVER THE INPUT: true; the input reads as it did. -/
def fnInverseGCDSpec : ChangeSpec := { name := "fnInverseGCD", fn := fun _ => fun
  | [d1, d2] => { results := [.lit (.bool true)], args := [d1, d2] }
  | _ => none }
def fnInverseGCDRow : OpenClaim := { program := "ytpojonfopoobpaa", sum := "3df523e48eb25245e71441c5d09cd468b2555b899804da7f2b382fc0fc674dfa", func := "loop.example/pub-g03333/laws.FnInverseGCD", spec := "fnInverseGCD", inPlace := ["math/bits.Sub64", "math/bits.Add64"], unfollowed := true, recurses := true, apart := false }
def FnInverseGCDSaid : Prop := fnInverseGCDRow.holds Try.pinned (OpenSpec.ofChange fnInverseGCDSpec)

/-- ITS FALSE NEIGHBOUR: 'it returns false'. Refute it at one input. -/
def fnInverseGCDWrong : ChangeSpec := { name := "fnInverseGCD", fn := fun _ => fun
  | [d1, d2] => { results := [.lit (.bool false)], args := [d1, d2] }
  | _ => none }
def FnInverseGCDWrongFalsely : Prop := fnInverseGCDRow.holds Try.pinned (OpenSpec.ofChange fnInverseGCDWrong)

/-- 'laws.FnGCDDivides': WHATEVER THE INPUT: true; the input reads as it did. -/
def fnGCDDividesSpec : ChangeSpec := { name := "fnGCDDivides", fn := fun _ => fun
  | [d1, d2] => { results := [.lit (.bool true)], args := [d1, d2] }
  | _ => none }
def fnGCDDividesRow : OpenClaim := { program := "ytpojonfopoobpaa", sum := "3df523e48eb25245e71441c5d09cd468b2555b899804da7f2b382fc0fc674dfa", func := "loop.example/pub-g03333/laws.FnGCDDivides", spec := "fnGCDDivides", inPlace := ["math/bits.Sub64", "math/bits.Add64"], unfollowed := true, recurses := true, apart := false }
def FnGCDDividesSaid : Prop := fnGCDDividesRow.holds Try.pinned (OpenSpec.ofChange fnGCDDividesSpec)

/-- ITS FALSE NEIGHBOUR: 'it returns false'. Refute it at one input. -/
def fnGCDDividesWrong : ChangeSpec := { name := "fnGCDDivides", fn := fun _ => fun
  | [d1, d2] => { results := [.lit (.bool false)], args := [d1, d2] }
  | _ => none }
def FnGCDDividesWrongFalsely : Prop := fnGCDDividesRow.holds Try.pinned (OpenSpec.ofChange fnGCDDividesWrong)

/-- 'laws.FnExpEnds': WHATEVER THE INPUT: true; the input reads as it did. -/
def fnExpEndsSpec : ChangeSpec := { name := "fnExpEnds", fn := fun _ => fun
  | [d1, d2] => { results := [.lit (.bool true)], args := [d1, d2] }
  | _ => none }
def fnExpEndsRow : OpenClaim := { program := "ytpojonfopoobpaa", sum := "3df523e48eb25245e71441c5d09cd468b2555b899804da7f2b382fc0fc674dfa", func := "loop.example/pub-g03333/laws.FnExpEnds", spec := "fnExpEnds", inPlace := ["math/bits.Sub64", "math/bits.Add64"], apart := false }
def FnExpEndsSaid : Prop := fnExpEndsRow.holds Try.pinned (OpenSpec.ofChange fnExpEndsSpec)

/-- ITS FALSE NEIGHBOUR: 'it returns false'. Refute it at one input. -/
def fnExpEndsWrong : ChangeSpec := { name := "fnExpEnds", fn := fun _ => fun
  | [d1, d2] => { results := [.lit (.bool false)], args := [d1, d2] }
  | _ => none }
def FnExpEndsWrongFalsely : Prop := fnExpEndsRow.holds Try.pinned (OpenSpec.ofChange fnExpEndsWrong)

/-- 'laws.FnDivBack': WHATEVER THE INPUT: true; the input reads as it did. -/
def fnDivBackSpec : ChangeSpec := { name := "fnDivBack", fn := fun _ => fun
  | [d1, d2] => { results := [.lit (.bool true)], args := [d1, d2] }
  | _ => none }
def fnDivBackRow : OpenClaim := { program := "ytpojonfopoobpaa", sum := "3df523e48eb25245e71441c5d09cd468b2555b899804da7f2b382fc0fc674dfa", func := "loop.example/pub-g03333/laws.FnDivBack", spec := "fnDivBack", inPlace := ["math/bits.Sub64", "math/bits.Add64"], apart := false }
def FnDivBackSaid : Prop := fnDivBackRow.holds Try.pinned (OpenSpec.ofChange fnDivBackSpec)

/-- ITS FALSE NEIGHBOUR: 'it returns false'. Refute it at one input. -/
def fnDivBackWrong : ChangeSpec := { name := "fnDivBack", fn := fun _ => fun
  | [d1, d2] => { results := [.lit (.bool false)], args := [d1, d2] }
  | _ => none }
def FnDivBackWrongFalsely : Prop := fnDivBackRow.holds Try.pinned (OpenSpec.ofChange fnDivBackWrong)

/-- 'laws.FnInverseProduct': WHATEVER THE INPUT: true; the input reads as it did. -/
def fnInverseProductSpec : ChangeSpec := { name := "fnInverseProduct", fn := fun _ => fun
  | [d1, d2, d3] => { results := [.lit (.bool true)], args := [d1, d2, d3] }
  | _ => none }
def fnInverseProductRow : OpenClaim := { program := "ytpojonfopoobpaa", sum := "3df523e48eb25245e71441c5d09cd468b2555b899804da7f2b382fc0fc674dfa", func := "loop.example/pub-g03333/laws.FnInverseProduct", spec := "fnInverseProduct", inPlace := ["math/bits.Sub64", "math/bits.Add64"], apart := false }
def FnInverseProductSaid : Prop := fnInverseProductRow.holds Try.pinned (OpenSpec.ofChange fnInverseProductSpec)

/-- ITS FALSE NEIGHBOUR: 'it returns false'. Refute it at one input. -/
def fnInverseProductWrong : ChangeSpec := { name := "fnInverseProduct", fn := fun _ => fun
  | [d1, d2, d3] => { results := [.lit (.bool false)], args := [d1, d2, d3] }
  | _ => none }
def FnInverseProductWrongFalsely : Prop := fnInverseProductRow.holds Try.pinned (OpenSpec.ofChange fnInverseProductWrong)

/- THE SECOND FORM. 'bulk': how many values and letters a reading holds, each counted each time it is reached (what is shared counts as often as it is met; a slice's spare places count too). A statement '..UptoSaid' is the law's where the arguments, and the package variables that the reading takes, are together of bulk at most 1048576: NARROWER than '..Said'. Prove '..Said' where nothing that the law and all that it calls make is longer than what came in: it says more and counts as full. Else prove '..UptoSaid'. A law counts once. -/
mutual
def uptoBulk {H : Type} : DataW H → Nat
  | .lit (.string bytes) => bytes.length + 1
  | .lit _ => 1
  | .nil => 1
  | .ptr d => uptoBulk d + 1
  | .slice elems spare => uptoBulkAll elems + uptoBulkAll spare + 1
  | .agg parts => uptoBulkAll parts + 1
  | .iface _ d => uptoBulk d + 1
  | .map entries => uptoBulkEntries entries + 1
  | .held _ => 1
def uptoBulkAll {H : Type} : List (DataW H) → Nat
  | [] => 0
  | d :: r => uptoBulk d + uptoBulkAll r
def uptoBulkEntries {H : Type} : List (Lit × DataW H) → Nat
  | [] => 0
  | x :: r => uptoBulkEntry x + uptoBulkEntries r
def uptoBulkEntry {H : Type} : Lit × DataW H → Nat
  | (.string bytes, d) => bytes.length + uptoBulk d + 1
  | (_, d) => uptoBulk d + 1
 end
def uptoSmall : (H : Type) → List (DataW H) → Bool := fun _ ds => decide (uptoBulkAll ds ≤ 1048576)
def OpenSpec.upto (s : _root_.Go.ChangeSpec) : _root_.Go.OpenSpec := { _root_.Go.OpenSpec.ofChange s with cond := some uptoSmall }

/-- 'laws.FnRunBack', WHERE WHAT IT READS IS OF BULK AT MOST 1048576: true; the input reads as it did. -/
def fnRunBackUptoRow : OpenClaim := { program := "ytpojonfopoobpaa", sum := "3df523e48eb25245e71441c5d09cd468b2555b899804da7f2b382fc0fc674dfa", func := "loop.example/pub-g03333/laws.FnRunBack", spec := "fnRunBack", inPlace := ["math/bits.Sub64", "math/bits.Add64"], apart := false, narrowed := true }
def FnRunBackUptoSaid : Prop := fnRunBackUptoRow.holds Try.pinned (OpenSpec.upto fnRunBackSpec)

/-- 'laws.FnExpProduct', WHERE WHAT IT READS IS OF BULK AT MOST 1048576: true; the input reads as it did. -/
def fnExpProductUptoRow : OpenClaim := { program := "ytpojonfopoobpaa", sum := "3df523e48eb25245e71441c5d09cd468b2555b899804da7f2b382fc0fc674dfa", func := "loop.example/pub-g03333/laws.FnExpProduct", spec := "fnExpProduct", inPlace := ["math/bits.Sub64", "math/bits.Add64"], apart := false, narrowed := true }
def FnExpProductUptoSaid : Prop := fnExpProductUptoRow.holds Try.pinned (OpenSpec.upto fnExpProductSpec)

/-- 'laws.FnModProduct', WHERE WHAT IT READS IS OF BULK AT MOST 1048576: true; the input reads as it did. -/
def fnModProductUptoRow : OpenClaim := { program := "ytpojonfopoobpaa", sum := "3df523e48eb25245e71441c5d09cd468b2555b899804da7f2b382fc0fc674dfa", func := "loop.example/pub-g03333/laws.FnModProduct", spec := "fnModProduct", inPlace := ["math/bits.Add64", "math/bits.Sub64"], apart := false, narrowed := true }
def FnModProductUptoSaid : Prop := fnModProductUptoRow.holds Try.pinned (OpenSpec.upto fnModProductSpec)

/-- 'laws.FnFermat', WHERE WHAT IT READS IS OF BULK AT MOST 1048576: true; the input reads as it did. -/
def fnFermatUptoRow : OpenClaim := { program := "ytpojonfopoobpaa", sum := "3df523e48eb25245e71441c5d09cd468b2555b899804da7f2b382fc0fc674dfa", func := "loop.example/pub-g03333/laws.FnFermat", spec := "fnFermat", inPlace := ["math/bits.Sub64", "math/bits.Add64"], apart := false, narrowed := true }
def FnFermatUptoSaid : Prop := fnFermatUptoRow.holds Try.pinned (OpenSpec.upto fnFermatSpec)

/-- 'laws.FnModTwice', WHERE WHAT IT READS IS OF BULK AT MOST 1048576: true; the input reads as it did. -/
def fnModTwiceUptoRow : OpenClaim := { program := "ytpojonfopoobpaa", sum := "3df523e48eb25245e71441c5d09cd468b2555b899804da7f2b382fc0fc674dfa", func := "loop.example/pub-g03333/laws.FnModTwice", spec := "fnModTwice", inPlace := ["math/bits.Sub64", "math/bits.Add64"], apart := false, narrowed := true }
def FnModTwiceUptoSaid : Prop := fnModTwiceUptoRow.holds Try.pinned (OpenSpec.upto fnModTwiceSpec)

/-- 'laws.FnOverflowing', WHERE WHAT IT READS IS OF BULK AT MOST 1048576: true; the input reads as it did. -/
def fnOverflowingUptoRow : OpenClaim := { program := "ytpojonfopoobpaa", sum := "3df523e48eb25245e71441c5d09cd468b2555b899804da7f2b382fc0fc674dfa", func := "loop.example/pub-g03333/laws.FnOverflowing", spec := "fnOverflowing", inPlace := ["math/bits.Sub64", "math/bits.Add64"], apart := false, narrowed := true }
def FnOverflowingUptoSaid : Prop := fnOverflowingUptoRow.holds Try.pinned (OpenSpec.upto fnOverflowingSpec)

/-- 'laws.FnExpRoads', WHERE WHAT IT READS IS OF BULK AT MOST 1048576: true; the input reads as it did. -/
def fnExpRoadsUptoRow : OpenClaim := { program := "ytpojonfopoobpaa", sum := "3df523e48eb25245e71441c5d09cd468b2555b899804da7f2b382fc0fc674dfa", func := "loop.example/pub-g03333/laws.FnExpRoads", spec := "fnExpRoads", inPlace := ["math/bits.Sub64", "math/bits.Add64"], apart := false, narrowed := true }
def FnExpRoadsUptoSaid : Prop := fnExpRoadsUptoRow.holds Try.pinned (OpenSpec.upto fnExpRoadsSpec)

/-- 'laws.FnPadding', WHERE WHAT IT READS IS OF BULK AT MOST 1048576: true; the input reads as it did. -/
def fnPaddingUptoRow : OpenClaim := { program := "ytpojonfopoobpaa", sum := "3df523e48eb25245e71441c5d09cd468b2555b899804da7f2b382fc0fc674dfa", func := "loop.example/pub-g03333/laws.FnPadding", spec := "fnPadding", inPlace := ["math/bits.Sub64", "math/bits.Add64"], apart := false, narrowed := true }
def FnPaddingUptoSaid : Prop := fnPaddingUptoRow.holds Try.pinned (OpenSpec.upto fnPaddingSpec)

/-- 'laws.FnModByte', WHERE WHAT IT READS IS OF BULK AT MOST 1048576: true; the input reads as it did. -/
def fnModByteUptoRow : OpenClaim := { program := "ytpojonfopoobpaa", sum := "3df523e48eb25245e71441c5d09cd468b2555b899804da7f2b382fc0fc674dfa", func := "loop.example/pub-g03333/laws.FnModByte", spec := "fnModByte", inPlace := ["math/bits.Sub64", "math/bits.Add64"], apart := false, narrowed := true }
def FnModByteUptoSaid : Prop := fnModByteUptoRow.holds Try.pinned (OpenSpec.upto fnModByteSpec)

/-- 'laws.FnGCDTimes', WHERE WHAT IT READS IS OF BULK AT MOST 1048576: true; the input reads as it did. -/
def fnGCDTimesUptoRow : OpenClaim := { program := "ytpojonfopoobpaa", sum := "3df523e48eb25245e71441c5d09cd468b2555b899804da7f2b382fc0fc674dfa", func := "loop.example/pub-g03333/laws.FnGCDTimes", spec := "fnGCDTimes", inPlace := ["math/bits.Add64", "math/bits.Sub64"], unfollowed := true, recurses := true, apart := false, narrowed := true }
def FnGCDTimesUptoSaid : Prop := fnGCDTimesUptoRow.holds Try.pinned (OpenSpec.upto fnGCDTimesSpec)

/-- 'laws.FnDivMod', WHERE WHAT IT READS IS OF BULK AT MOST 1048576: true; the input reads as it did. -/
def fnDivModUptoRow : OpenClaim := { program := "ytpojonfopoobpaa", sum := "3df523e48eb25245e71441c5d09cd468b2555b899804da7f2b382fc0fc674dfa", func := "loop.example/pub-g03333/laws.FnDivMod", spec := "fnDivMod", inPlace := ["math/bits.Sub64", "math/bits.Add64"], apart := false, narrowed := true }
def FnDivModUptoSaid : Prop := fnDivModUptoRow.holds Try.pinned (OpenSpec.upto fnDivModSpec)

/-- 'laws.FnWidth', WHERE WHAT IT READS IS OF BULK AT MOST 1048576: true; the input reads as it did. -/
def fnWidthUptoRow : OpenClaim := { program := "ytpojonfopoobpaa", sum := "3df523e48eb25245e71441c5d09cd468b2555b899804da7f2b382fc0fc674dfa", func := "loop.example/pub-g03333/laws.FnWidth", spec := "fnWidth", inPlace := ["math/bits.Sub64", "math/bits.Add64"], apart := false, narrowed := true }
def FnWidthUptoSaid : Prop := fnWidthUptoRow.holds Try.pinned (OpenSpec.upto fnWidthSpec)

/-- 'laws.FnExpBase', WHERE WHAT IT READS IS OF BULK AT MOST 1048576: true; the input reads as it did. -/
def fnExpBaseUptoRow : OpenClaim := { program := "ytpojonfopoobpaa", sum := "3df523e48eb25245e71441c5d09cd468b2555b899804da7f2b382fc0fc674dfa", func := "loop.example/pub-g03333/laws.FnExpBase", spec := "fnExpBase", inPlace := ["math/bits.Sub64", "math/bits.Add64"], apart := false, narrowed := true }
def FnExpBaseUptoSaid : Prop := fnExpBaseUptoRow.holds Try.pinned (OpenSpec.upto fnExpBaseSpec)

/-- 'laws.FnExpSum', WHERE WHAT IT READS IS OF BULK AT MOST 1048576: true; the input reads as it did. -/
def fnExpSumUptoRow : OpenClaim := { program := "ytpojonfopoobpaa", sum := "3df523e48eb25245e71441c5d09cd468b2555b899804da7f2b382fc0fc674dfa", func := "loop.example/pub-g03333/laws.FnExpSum", spec := "fnExpSum", inPlace := ["math/bits.Sub64", "math/bits.Add64"], apart := false, narrowed := true }
def FnExpSumUptoSaid : Prop := fnExpSumUptoRow.holds Try.pinned (OpenSpec.upto fnExpSumSpec)

/-- 'laws.FnInverseGCD', WHERE WHAT IT READS IS OF BULK AT MOST 1048576: true; the input reads as it did. -/
def fnInverseGCDUptoRow : OpenClaim := { program := "ytpojonfopoobpaa", sum := "3df523e48eb25245e71441c5d09cd468b2555b899804da7f2b382fc0fc674dfa", func := "loop.example/pub-g03333/laws.FnInverseGCD", spec := "fnInverseGCD", inPlace := ["math/bits.Sub64", "math/bits.Add64"], unfollowed := true, recurses := true, apart := false, narrowed := true }
def FnInverseGCDUptoSaid : Prop := fnInverseGCDUptoRow.holds Try.pinned (OpenSpec.upto fnInverseGCDSpec)

/-- 'laws.FnGCDDivides', WHERE WHAT IT READS IS OF BULK AT MOST 1048576: true; the input reads as it did. -/
def fnGCDDividesUptoRow : OpenClaim := { program := "ytpojonfopoobpaa", sum := "3df523e48eb25245e71441c5d09cd468b2555b899804da7f2b382fc0fc674dfa", func := "loop.example/pub-g03333/laws.FnGCDDivides", spec := "fnGCDDivides", inPlace := ["math/bits.Sub64", "math/bits.Add64"], unfollowed := true, recurses := true, apart := false, narrowed := true }
def FnGCDDividesUptoSaid : Prop := fnGCDDividesUptoRow.holds Try.pinned (OpenSpec.upto fnGCDDividesSpec)

/-- 'laws.FnExpEnds', WHERE WHAT IT READS IS OF BULK AT MOST 1048576: true; the input reads as it did. -/
def fnExpEndsUptoRow : OpenClaim := { program := "ytpojonfopoobpaa", sum := "3df523e48eb25245e71441c5d09cd468b2555b899804da7f2b382fc0fc674dfa", func := "loop.example/pub-g03333/laws.FnExpEnds", spec := "fnExpEnds", inPlace := ["math/bits.Sub64", "math/bits.Add64"], apart := false, narrowed := true }
def FnExpEndsUptoSaid : Prop := fnExpEndsUptoRow.holds Try.pinned (OpenSpec.upto fnExpEndsSpec)

/-- 'laws.FnDivBack', WHERE WHAT IT READS IS OF BULK AT MOST 1048576: true; the input reads as it did. -/
def fnDivBackUptoRow : OpenClaim := { program := "ytpojonfopoobpaa", sum := "3df523e48eb25245e71441c5d09cd468b2555b899804da7f2b382fc0fc674dfa", func := "loop.example/pub-g03333/laws.FnDivBack", spec := "fnDivBack", inPlace := ["math/bits.Sub64", "math/bits.Add64"], apart := false, narrowed := true }
def FnDivBackUptoSaid : Prop := fnDivBackUptoRow.holds Try.pinned (OpenSpec.upto fnDivBackSpec)

/-- 'laws.FnInverseProduct', WHERE WHAT IT READS IS OF BULK AT MOST 1048576: true; the input reads as it did. -/
def fnInverseProductUptoRow : OpenClaim := { program := "ytpojonfopoobpaa", sum := "3df523e48eb25245e71441c5d09cd468b2555b899804da7f2b382fc0fc674dfa", func := "loop.example/pub-g03333/laws.FnInverseProduct", spec := "fnInverseProduct", inPlace := ["math/bits.Sub64", "math/bits.Add64"], apart := false, narrowed := true }
def FnInverseProductUptoSaid : Prop := fnInverseProductUptoRow.holds Try.pinned (OpenSpec.upto fnInverseProductSpec)

end Rows
end Go.Proofs.Ytpojonfopoobpaa
