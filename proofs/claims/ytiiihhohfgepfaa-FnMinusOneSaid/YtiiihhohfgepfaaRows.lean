/-
  No cell of these rows narrows 'for every input' (looked for: loops, veiled, ifaces, maps, wideKeys, modest, calm, conditions, laid).
  DERIVED. THE GIVEN ROWS OF THIS SEAT. 18 by the template 'for every input the law returns true; each argument reads behind the call as it read before'; 0 by the template 'total and deterministic' (their statements: YtiiihhohfgepfaaTotals.lean).
  GIVEN WITH THE SEED: the statements are not yours to turn. If you find one false, say at which input.
  Laid BY PROGRAM, IN A SANDBOX (cutbox-rows.mjs): the forced cells as the released guide's own fill.sh prints them over the translation c8b83949d94c643b… (all of the seat's roots in one cut). By AI agents, Wed Nov 11 2026. No macro, syntax, notation, axiom, sorry.
-/
import Derived.Test.YtiiihhohfgepfaaChecked
import GoSem.Claim
import GoSem.ClaimJoined
import GoSem.ClaimMapViews
import Derived.JoinedTies
import Derived.KernelRfl
namespace Go.Proofs.Ytiiihhohfgepfaa
/- THE CELL 'sum', in the pinned program and in every row, IS THE sha256 OF THE DUMP (.gsa) THAT YtiiihhohfgepfaaProg.lean LOADS. Nothing in Lean hashes anything: it is a label: what it is worth is what the hold of that sum in a sandbox is worth. -/
noncomputable def Try.pinned : Pinned := { name := "ytiiihhohfgepfaa", sum := "c8b83949d94c643b599992dc121194aa05ad3298719baa86fff0b10b642699da", checked := Try.checked }
namespace Rows
def none {H : Type} : Left H := { results := [], args := [] }

/-- 'laws.FnAddGroups': WHATEVER THE INPUT: true; the input reads as it did. -/
def fnAddGroupsSpec : ChangeSpec := { name := "fnAddGroups", fn := fun _ => fun
  | [d1, d2, d3, d4] => { results := [.lit (.bool true)], args := [d1, d2, d3, d4] }
  | _ => none }
def fnAddGroupsRow : OpenClaim := { program := "ytiiihhohfgepfaa", sum := "c8b83949d94c643b599992dc121194aa05ad3298719baa86fff0b10b642699da", func := "loop.example/pub-g03333/laws.FnAddGroups", spec := "fnAddGroups", inPlace := ["math/bits.Sub64", "math/bits.Add64"], apart := false }
def FnAddGroupsSaid : Prop := fnAddGroupsRow.holds Try.pinned (OpenSpec.ofChange fnAddGroupsSpec)

/-- ITS FALSE NEIGHBOUR: 'it returns false'. Refute it at one input. -/
def fnAddGroupsWrong : ChangeSpec := { name := "fnAddGroups", fn := fun _ => fun
  | [d1, d2, d3, d4] => { results := [.lit (.bool false)], args := [d1, d2, d3, d4] }
  | _ => none }
def FnAddGroupsWrongFalsely : Prop := fnAddGroupsRow.holds Try.pinned (OpenSpec.ofChange fnAddGroupsWrong)

/-- 'laws.FnAddOrder': WHATEVER THE INPUT: true; the input reads as it did. -/
def fnAddOrderSpec : ChangeSpec := { name := "fnAddOrder", fn := fun _ => fun
  | [d1, d2, d3] => { results := [.lit (.bool true)], args := [d1, d2, d3] }
  | _ => none }
def fnAddOrderRow : OpenClaim := { program := "ytiiihhohfgepfaa", sum := "c8b83949d94c643b599992dc121194aa05ad3298719baa86fff0b10b642699da", func := "loop.example/pub-g03333/laws.FnAddOrder", spec := "fnAddOrder", inPlace := ["math/bits.Sub64", "math/bits.Add64"], apart := false }
def FnAddOrderSaid : Prop := fnAddOrderRow.holds Try.pinned (OpenSpec.ofChange fnAddOrderSpec)

/-- ITS FALSE NEIGHBOUR: 'it returns false'. Refute it at one input. -/
def fnAddOrderWrong : ChangeSpec := { name := "fnAddOrder", fn := fun _ => fun
  | [d1, d2, d3] => { results := [.lit (.bool false)], args := [d1, d2, d3] }
  | _ => none }
def FnAddOrderWrongFalsely : Prop := fnAddOrderRow.holds Try.pinned (OpenSpec.ofChange fnAddOrderWrong)

/-- 'laws.FnExactAdd': WHATEVER THE INPUT: true; the input reads as it did. -/
def fnExactAddSpec : ChangeSpec := { name := "fnExactAdd", fn := fun _ => fun
  | [d1, d2, d3] => { results := [.lit (.bool true)], args := [d1, d2, d3] }
  | _ => none }
def fnExactAddRow : OpenClaim := { program := "ytiiihhohfgepfaa", sum := "c8b83949d94c643b599992dc121194aa05ad3298719baa86fff0b10b642699da", func := "loop.example/pub-g03333/laws.FnExactAdd", spec := "fnExactAdd", inPlace := ["math/bits.Sub64", "math/bits.Add64"], apart := false }
def FnExactAddSaid : Prop := fnExactAddRow.holds Try.pinned (OpenSpec.ofChange fnExactAddSpec)

/-- ITS FALSE NEIGHBOUR: 'it returns false'. Refute it at one input. -/
def fnExactAddWrong : ChangeSpec := { name := "fnExactAdd", fn := fun _ => fun
  | [d1, d2, d3] => { results := [.lit (.bool false)], args := [d1, d2, d3] }
  | _ => none }
def FnExactAddWrongFalsely : Prop := fnExactAddRow.holds Try.pinned (OpenSpec.ofChange fnExactAddWrong)

/-- 'laws.FnExactCancel': WHATEVER THE INPUT: true; the input reads as it did. -/
def fnExactCancelSpec : ChangeSpec := { name := "fnExactCancel", fn := fun _ => fun
  | [d1, d2] => { results := [.lit (.bool true)], args := [d1, d2] }
  | _ => none }
def fnExactCancelRow : OpenClaim := { program := "ytiiihhohfgepfaa", sum := "c8b83949d94c643b599992dc121194aa05ad3298719baa86fff0b10b642699da", func := "loop.example/pub-g03333/laws.FnExactCancel", spec := "fnExactCancel", inPlace := ["math/bits.Sub64", "math/bits.Add64"], apart := false }
def FnExactCancelSaid : Prop := fnExactCancelRow.holds Try.pinned (OpenSpec.ofChange fnExactCancelSpec)

/-- ITS FALSE NEIGHBOUR: 'it returns false'. Refute it at one input. -/
def fnExactCancelWrong : ChangeSpec := { name := "fnExactCancel", fn := fun _ => fun
  | [d1, d2] => { results := [.lit (.bool false)], args := [d1, d2] }
  | _ => none }
def FnExactCancelWrongFalsely : Prop := fnExactCancelRow.holds Try.pinned (OpenSpec.ofChange fnExactCancelWrong)

/-- 'laws.FnExactSubOne': WHATEVER THE INPUT: true; the input reads as it did. -/
def fnExactSubOneSpec : ChangeSpec := { name := "fnExactSubOne", fn := fun _ => fun
  | [d1, d2] => { results := [.lit (.bool true)], args := [d1, d2] }
  | _ => none }
def fnExactSubOneRow : OpenClaim := { program := "ytiiihhohfgepfaa", sum := "c8b83949d94c643b599992dc121194aa05ad3298719baa86fff0b10b642699da", func := "loop.example/pub-g03333/laws.FnExactSubOne", spec := "fnExactSubOne", inPlace := ["math/bits.Sub64", "math/bits.Add64"], apart := false }
def FnExactSubOneSaid : Prop := fnExactSubOneRow.holds Try.pinned (OpenSpec.ofChange fnExactSubOneSpec)

/-- ITS FALSE NEIGHBOUR: 'it returns false'. Refute it at one input. -/
def fnExactSubOneWrong : ChangeSpec := { name := "fnExactSubOne", fn := fun _ => fun
  | [d1, d2] => { results := [.lit (.bool false)], args := [d1, d2] }
  | _ => none }
def FnExactSubOneWrongFalsely : Prop := fnExactSubOneRow.holds Try.pinned (OpenSpec.ofChange fnExactSubOneWrong)

/-- 'laws.FnExactIsMinusOne': WHATEVER THE INPUT: true; the input reads as it did. -/
def fnExactIsMinusOneSpec : ChangeSpec := { name := "fnExactIsMinusOne", fn := fun _ => fun
  | [d1, d2] => { results := [.lit (.bool true)], args := [d1, d2] }
  | _ => none }
def fnExactIsMinusOneRow : OpenClaim := { program := "ytiiihhohfgepfaa", sum := "c8b83949d94c643b599992dc121194aa05ad3298719baa86fff0b10b642699da", func := "loop.example/pub-g03333/laws.FnExactIsMinusOne", spec := "fnExactIsMinusOne", inPlace := ["math/bits.Sub64", "math/bits.Add64"], apart := false }
def FnExactIsMinusOneSaid : Prop := fnExactIsMinusOneRow.holds Try.pinned (OpenSpec.ofChange fnExactIsMinusOneSpec)

/-- ITS FALSE NEIGHBOUR: 'it returns false'. Refute it at one input. -/
def fnExactIsMinusOneWrong : ChangeSpec := { name := "fnExactIsMinusOne", fn := fun _ => fun
  | [d1, d2] => { results := [.lit (.bool false)], args := [d1, d2] }
  | _ => none }
def FnExactIsMinusOneWrongFalsely : Prop := fnExactIsMinusOneRow.holds Try.pinned (OpenSpec.ofChange fnExactIsMinusOneWrong)

/-- 'laws.FnSubTurned': WHATEVER THE INPUT: true; the input reads as it did. -/
def fnSubTurnedSpec : ChangeSpec := { name := "fnSubTurned", fn := fun _ => fun
  | [d1, d2, d3] => { results := [.lit (.bool true)], args := [d1, d2, d3] }
  | _ => none }
def fnSubTurnedRow : OpenClaim := { program := "ytiiihhohfgepfaa", sum := "c8b83949d94c643b599992dc121194aa05ad3298719baa86fff0b10b642699da", func := "loop.example/pub-g03333/laws.FnSubTurned", spec := "fnSubTurned", inPlace := ["math/bits.Sub64", "math/bits.Add64"], apart := false }
def FnSubTurnedSaid : Prop := fnSubTurnedRow.holds Try.pinned (OpenSpec.ofChange fnSubTurnedSpec)

/-- ITS FALSE NEIGHBOUR: 'it returns false'. Refute it at one input. -/
def fnSubTurnedWrong : ChangeSpec := { name := "fnSubTurned", fn := fun _ => fun
  | [d1, d2, d3] => { results := [.lit (.bool false)], args := [d1, d2, d3] }
  | _ => none }
def FnSubTurnedWrongFalsely : Prop := fnSubTurnedRow.holds Try.pinned (OpenSpec.ofChange fnSubTurnedWrong)

/-- 'laws.FnAddSub': WHATEVER THE INPUT: true; the input reads as it did. -/
def fnAddSubSpec : ChangeSpec := { name := "fnAddSub", fn := fun _ => fun
  | [d1, d2, d3] => { results := [.lit (.bool true)], args := [d1, d2, d3] }
  | _ => none }
def fnAddSubRow : OpenClaim := { program := "ytiiihhohfgepfaa", sum := "c8b83949d94c643b599992dc121194aa05ad3298719baa86fff0b10b642699da", func := "loop.example/pub-g03333/laws.FnAddSub", spec := "fnAddSub", inPlace := ["math/bits.Sub64", "math/bits.Add64"], apart := false }
def FnAddSubSaid : Prop := fnAddSubRow.holds Try.pinned (OpenSpec.ofChange fnAddSubSpec)

/-- ITS FALSE NEIGHBOUR: 'it returns false'. Refute it at one input. -/
def fnAddSubWrong : ChangeSpec := { name := "fnAddSub", fn := fun _ => fun
  | [d1, d2, d3] => { results := [.lit (.bool false)], args := [d1, d2, d3] }
  | _ => none }
def FnAddSubWrongFalsely : Prop := fnAddSubRow.holds Try.pinned (OpenSpec.ofChange fnAddSubWrong)

/-- 'laws.FnTell': WHATEVER THE INPUT: true; the input reads as it did. -/
def fnTellSpec : ChangeSpec := { name := "fnTell", fn := fun _ => fun
  | [d1, d2, d3] => { results := [.lit (.bool true)], args := [d1, d2, d3] }
  | _ => none }
def fnTellRow : OpenClaim := { program := "ytiiihhohfgepfaa", sum := "c8b83949d94c643b599992dc121194aa05ad3298719baa86fff0b10b642699da", func := "loop.example/pub-g03333/laws.FnTell", spec := "fnTell", inPlace := ["math/bits.Sub64", "math/bits.Add64"], apart := false }
def FnTellSaid : Prop := fnTellRow.holds Try.pinned (OpenSpec.ofChange fnTellSpec)

/-- ITS FALSE NEIGHBOUR: 'it returns false'. Refute it at one input. -/
def fnTellWrong : ChangeSpec := { name := "fnTell", fn := fun _ => fun
  | [d1, d2, d3] => { results := [.lit (.bool false)], args := [d1, d2, d3] }
  | _ => none }
def FnTellWrongFalsely : Prop := fnTellRow.holds Try.pinned (OpenSpec.ofChange fnTellWrong)

/-- 'laws.FnExactExpSelf': WHATEVER THE INPUT: true; the input reads as it did. -/
def fnExactExpSelfSpec : ChangeSpec := { name := "fnExactExpSelf", fn := fun _ => fun
  | [d1, d2, d3] => { results := [.lit (.bool true)], args := [d1, d2, d3] }
  | _ => none }
def fnExactExpSelfRow : OpenClaim := { program := "ytiiihhohfgepfaa", sum := "c8b83949d94c643b599992dc121194aa05ad3298719baa86fff0b10b642699da", func := "loop.example/pub-g03333/laws.FnExactExpSelf", spec := "fnExactExpSelf", inPlace := ["math/bits.Sub64", "math/bits.Add64"], apart := false }
def FnExactExpSelfSaid : Prop := fnExactExpSelfRow.holds Try.pinned (OpenSpec.ofChange fnExactExpSelfSpec)

/-- ITS FALSE NEIGHBOUR: 'it returns false'. Refute it at one input. -/
def fnExactExpSelfWrong : ChangeSpec := { name := "fnExactExpSelf", fn := fun _ => fun
  | [d1, d2, d3] => { results := [.lit (.bool false)], args := [d1, d2, d3] }
  | _ => none }
def FnExactExpSelfWrongFalsely : Prop := fnExactExpSelfRow.holds Try.pinned (OpenSpec.ofChange fnExactExpSelfWrong)

/-- 'laws.FnMinusOne': WHATEVER THE INPUT: true; the input reads as it did. -/
def fnMinusOneSpec : ChangeSpec := { name := "fnMinusOne", fn := fun _ => fun
  | [d1, d2] => { results := [.lit (.bool true)], args := [d1, d2] }
  | _ => none }
def fnMinusOneRow : OpenClaim := { program := "ytiiihhohfgepfaa", sum := "c8b83949d94c643b599992dc121194aa05ad3298719baa86fff0b10b642699da", func := "loop.example/pub-g03333/laws.FnMinusOne", spec := "fnMinusOne", inPlace := ["math/bits.Sub64", "math/bits.Add64"], apart := false }
def FnMinusOneSaid : Prop := fnMinusOneRow.holds Try.pinned (OpenSpec.ofChange fnMinusOneSpec)

/-- ITS FALSE NEIGHBOUR: 'it returns false'. Refute it at one input. -/
def fnMinusOneWrong : ChangeSpec := { name := "fnMinusOne", fn := fun _ => fun
  | [d1, d2] => { results := [.lit (.bool false)], args := [d1, d2] }
  | _ => none }
def FnMinusOneWrongFalsely : Prop := fnMinusOneRow.holds Try.pinned (OpenSpec.ofChange fnMinusOneWrong)

/-- 'laws.FnExactSquare': WHATEVER THE INPUT: true; the input reads as it did. -/
def fnExactSquareSpec : ChangeSpec := { name := "fnExactSquare", fn := fun _ => fun
  | [d1, d2] => { results := [.lit (.bool true)], args := [d1, d2] }
  | _ => none }
def fnExactSquareRow : OpenClaim := { program := "ytiiihhohfgepfaa", sum := "c8b83949d94c643b599992dc121194aa05ad3298719baa86fff0b10b642699da", func := "loop.example/pub-g03333/laws.FnExactSquare", spec := "fnExactSquare", inPlace := ["math/bits.Sub64", "math/bits.Add64"], apart := false }
def FnExactSquareSaid : Prop := fnExactSquareRow.holds Try.pinned (OpenSpec.ofChange fnExactSquareSpec)

/-- ITS FALSE NEIGHBOUR: 'it returns false'. Refute it at one input. -/
def fnExactSquareWrong : ChangeSpec := { name := "fnExactSquare", fn := fun _ => fun
  | [d1, d2] => { results := [.lit (.bool false)], args := [d1, d2] }
  | _ => none }
def FnExactSquareWrongFalsely : Prop := fnExactSquareRow.holds Try.pinned (OpenSpec.ofChange fnExactSquareWrong)

/-- 'laws.FnMulGroups': WHATEVER THE INPUT: true; the input reads as it did. -/
def fnMulGroupsSpec : ChangeSpec := { name := "fnMulGroups", fn := fun _ => fun
  | [d1, d2, d3, d4] => { results := [.lit (.bool true)], args := [d1, d2, d3, d4] }
  | _ => none }
def fnMulGroupsRow : OpenClaim := { program := "ytiiihhohfgepfaa", sum := "c8b83949d94c643b599992dc121194aa05ad3298719baa86fff0b10b642699da", func := "loop.example/pub-g03333/laws.FnMulGroups", spec := "fnMulGroups", inPlace := ["math/bits.Sub64", "math/bits.Add64"], apart := false }
def FnMulGroupsSaid : Prop := fnMulGroupsRow.holds Try.pinned (OpenSpec.ofChange fnMulGroupsSpec)

/-- ITS FALSE NEIGHBOUR: 'it returns false'. Refute it at one input. -/
def fnMulGroupsWrong : ChangeSpec := { name := "fnMulGroups", fn := fun _ => fun
  | [d1, d2, d3, d4] => { results := [.lit (.bool false)], args := [d1, d2, d3, d4] }
  | _ => none }
def FnMulGroupsWrongFalsely : Prop := fnMulGroupsRow.holds Try.pinned (OpenSpec.ofChange fnMulGroupsWrong)

/-- 'laws.FnMulOrder': WHATEVER THE INPUT: true; the input reads as it did. -/
def fnMulOrderSpec : ChangeSpec := { name := "fnMulOrder", fn := fun _ => fun
  | [d1, d2, d3] => { results := [.lit (.bool true)], args := [d1, d2, d3] }
  | _ => none }
def fnMulOrderRow : OpenClaim := { program := "ytiiihhohfgepfaa", sum := "c8b83949d94c643b599992dc121194aa05ad3298719baa86fff0b10b642699da", func := "loop.example/pub-g03333/laws.FnMulOrder", spec := "fnMulOrder", inPlace := ["math/bits.Sub64", "math/bits.Add64"], apart := false }
def FnMulOrderSaid : Prop := fnMulOrderRow.holds Try.pinned (OpenSpec.ofChange fnMulOrderSpec)

/-- ITS FALSE NEIGHBOUR: 'it returns false'. Refute it at one input. -/
def fnMulOrderWrong : ChangeSpec := { name := "fnMulOrder", fn := fun _ => fun
  | [d1, d2, d3] => { results := [.lit (.bool false)], args := [d1, d2, d3] }
  | _ => none }
def FnMulOrderWrongFalsely : Prop := fnMulOrderRow.holds Try.pinned (OpenSpec.ofChange fnMulOrderWrong)

/-- 'laws.FnMulSpread': WHATEVER THE INPUT: true; the input reads as it did. -/
def fnMulSpreadSpec : ChangeSpec := { name := "fnMulSpread", fn := fun _ => fun
  | [d1, d2, d3, d4] => { results := [.lit (.bool true)], args := [d1, d2, d3, d4] }
  | _ => none }
def fnMulSpreadRow : OpenClaim := { program := "ytiiihhohfgepfaa", sum := "c8b83949d94c643b599992dc121194aa05ad3298719baa86fff0b10b642699da", func := "loop.example/pub-g03333/laws.FnMulSpread", spec := "fnMulSpread", inPlace := ["math/bits.Sub64", "math/bits.Add64"], apart := false }
def FnMulSpreadSaid : Prop := fnMulSpreadRow.holds Try.pinned (OpenSpec.ofChange fnMulSpreadSpec)

/-- ITS FALSE NEIGHBOUR: 'it returns false'. Refute it at one input. -/
def fnMulSpreadWrong : ChangeSpec := { name := "fnMulSpread", fn := fun _ => fun
  | [d1, d2, d3, d4] => { results := [.lit (.bool false)], args := [d1, d2, d3, d4] }
  | _ => none }
def FnMulSpreadWrongFalsely : Prop := fnMulSpreadRow.holds Try.pinned (OpenSpec.ofChange fnMulSpreadWrong)

/-- 'laws.FnSquares': WHATEVER THE INPUT: true; the input reads as it did. -/
def fnSquaresSpec : ChangeSpec := { name := "fnSquares", fn := fun _ => fun
  | [d1, d2, d3] => { results := [.lit (.bool true)], args := [d1, d2, d3] }
  | _ => none }
def fnSquaresRow : OpenClaim := { program := "ytiiihhohfgepfaa", sum := "c8b83949d94c643b599992dc121194aa05ad3298719baa86fff0b10b642699da", func := "loop.example/pub-g03333/laws.FnSquares", spec := "fnSquares", inPlace := ["math/bits.Sub64", "math/bits.Add64"], apart := false }
def FnSquaresSaid : Prop := fnSquaresRow.holds Try.pinned (OpenSpec.ofChange fnSquaresSpec)

/-- ITS FALSE NEIGHBOUR: 'it returns false'. Refute it at one input. -/
def fnSquaresWrong : ChangeSpec := { name := "fnSquares", fn := fun _ => fun
  | [d1, d2, d3] => { results := [.lit (.bool false)], args := [d1, d2, d3] }
  | _ => none }
def FnSquaresWrongFalsely : Prop := fnSquaresRow.holds Try.pinned (OpenSpec.ofChange fnSquaresWrong)

/-- 'laws.FnZero': WHATEVER THE INPUT: true; the input reads as it did. -/
def fnZeroSpec : ChangeSpec := { name := "fnZero", fn := fun _ => fun
  | [d1, d2] => { results := [.lit (.bool true)], args := [d1, d2] }
  | _ => none }
def fnZeroRow : OpenClaim := { program := "ytiiihhohfgepfaa", sum := "c8b83949d94c643b599992dc121194aa05ad3298719baa86fff0b10b642699da", func := "loop.example/pub-g03333/laws.FnZero", spec := "fnZero", inPlace := ["math/bits.Sub64", "math/bits.Add64"], apart := false }
def FnZeroSaid : Prop := fnZeroRow.holds Try.pinned (OpenSpec.ofChange fnZeroSpec)

/-- ITS FALSE NEIGHBOUR: 'it returns false'. Refute it at one input. -/
def fnZeroWrong : ChangeSpec := { name := "fnZero", fn := fun _ => fun
  | [d1, d2] => { results := [.lit (.bool false)], args := [d1, d2] }
  | _ => none }
def FnZeroWrongFalsely : Prop := fnZeroRow.holds Try.pinned (OpenSpec.ofChange fnZeroWrong)

/-- 'laws.FnMinusOneTimes': WHATEVER THE INPUT: true; the input reads as it did. -/
def fnMinusOneTimesSpec : ChangeSpec := { name := "fnMinusOneTimes", fn := fun _ => fun
  | [d1, d2] => { results := [.lit (.bool true)], args := [d1, d2] }
  | _ => none }
def fnMinusOneTimesRow : OpenClaim := { program := "ytiiihhohfgepfaa", sum := "c8b83949d94c643b599992dc121194aa05ad3298719baa86fff0b10b642699da", func := "loop.example/pub-g03333/laws.FnMinusOneTimes", spec := "fnMinusOneTimes", inPlace := ["math/bits.Sub64", "math/bits.Add64"], apart := false }
def FnMinusOneTimesSaid : Prop := fnMinusOneTimesRow.holds Try.pinned (OpenSpec.ofChange fnMinusOneTimesSpec)

/-- ITS FALSE NEIGHBOUR: 'it returns false'. Refute it at one input. -/
def fnMinusOneTimesWrong : ChangeSpec := { name := "fnMinusOneTimes", fn := fun _ => fun
  | [d1, d2] => { results := [.lit (.bool false)], args := [d1, d2] }
  | _ => none }
def FnMinusOneTimesWrongFalsely : Prop := fnMinusOneTimesRow.holds Try.pinned (OpenSpec.ofChange fnMinusOneTimesWrong)

/- THE SECOND FORM. 'bulk': how many values and letters a reading holds, each counted each time it is reached (what is shared counts as often as it is met; a slice's spare places count too). A statement '..UptoSaid' is the law's where the arguments, and the package variables that the reading takes, are together of bulk at most 1048576: NARROWER than '..Said'. Prove '..Said' where nothing that the law and all that it calls make is longer than what came in: it says more and counts as full. Else prove '..UptoSaid'. A law counts once. -/
mutual
def uptoBulk {H : Type} : DataW H → Nat
  | .lit (.string bytes) => bytes.length + 1
  | .lit _ => 1
  | .nil => 1
  | .ptr d => uptoBulk d + 1
  | .slice elems spare => uptoBulkAll elems + uptoBulkAll spare + 1
  | .agg parts => uptoBulkAll parts + 1
  | .iface _ d => uptoBulk d + 1
  | .map entries => uptoBulkEntries entries + 1
  | .held _ => 1
def uptoBulkAll {H : Type} : List (DataW H) → Nat
  | [] => 0
  | d :: r => uptoBulk d + uptoBulkAll r
def uptoBulkEntries {H : Type} : List (Lit × DataW H) → Nat
  | [] => 0
  | x :: r => uptoBulkEntry x + uptoBulkEntries r
def uptoBulkEntry {H : Type} : Lit × DataW H → Nat
  | (.string bytes, d) => bytes.length + uptoBulk d + 1
  | (_, d) => uptoBulk d + 1
 end
def uptoSmall : (H : Type) → List (DataW H) → Bool := fun _ ds => decide (uptoBulkAll ds ≤ 1048576)
def OpenSpec.upto (s : _root_.Go.ChangeSpec) : _root_.Go.OpenSpec := { _root_.Go.OpenSpec.ofChange s with cond := some uptoSmall }

/-- 'laws.FnAddGroups', WHERE WHAT IT READS IS OF BULK AT MOST 1048576: true; the input reads as it did. -/
def fnAddGroupsUptoRow : OpenClaim := { program := "ytiiihhohfgepfaa", sum := "c8b83949d94c643b599992dc121194aa05ad3298719baa86fff0b10b642699da", func := "loop.example/pub-g03333/laws.FnAddGroups", spec := "fnAddGroups", inPlace := ["math/bits.Sub64", "math/bits.Add64"], apart := false, narrowed := true }
def FnAddGroupsUptoSaid : Prop := fnAddGroupsUptoRow.holds Try.pinned (OpenSpec.upto fnAddGroupsSpec)

/-- 'laws.FnAddOrder', WHERE WHAT IT READS IS OF BULK AT MOST 1048576: true; the input reads as it did. -/
def fnAddOrderUptoRow : OpenClaim := { program := "ytiiihhohfgepfaa", sum := "c8b83949d94c643b599992dc121194aa05ad3298719baa86fff0b10b642699da", func := "loop.example/pub-g03333/laws.FnAddOrder", spec := "fnAddOrder", inPlace := ["math/bits.Sub64", "math/bits.Add64"], apart := false, narrowed := true }
def FnAddOrderUptoSaid : Prop := fnAddOrderUptoRow.holds Try.pinned (OpenSpec.upto fnAddOrderSpec)

/-- 'laws.FnExactAdd', WHERE WHAT IT READS IS OF BULK AT MOST 1048576: true; the input reads as it did. -/
def fnExactAddUptoRow : OpenClaim := { program := "ytiiihhohfgepfaa", sum := "c8b83949d94c643b599992dc121194aa05ad3298719baa86fff0b10b642699da", func := "loop.example/pub-g03333/laws.FnExactAdd", spec := "fnExactAdd", inPlace := ["math/bits.Sub64", "math/bits.Add64"], apart := false, narrowed := true }
def FnExactAddUptoSaid : Prop := fnExactAddUptoRow.holds Try.pinned (OpenSpec.upto fnExactAddSpec)

/-- 'laws.FnExactCancel', WHERE WHAT IT READS IS OF BULK AT MOST 1048576: true; the input reads as it did. -/
def fnExactCancelUptoRow : OpenClaim := { program := "ytiiihhohfgepfaa", sum := "c8b83949d94c643b599992dc121194aa05ad3298719baa86fff0b10b642699da", func := "loop.example/pub-g03333/laws.FnExactCancel", spec := "fnExactCancel", inPlace := ["math/bits.Sub64", "math/bits.Add64"], apart := false, narrowed := true }
def FnExactCancelUptoSaid : Prop := fnExactCancelUptoRow.holds Try.pinned (OpenSpec.upto fnExactCancelSpec)

/-- 'laws.FnExactSubOne', WHERE WHAT IT READS IS OF BULK AT MOST 1048576: true; the input reads as it did. -/
def fnExactSubOneUptoRow : OpenClaim := { program := "ytiiihhohfgepfaa", sum := "c8b83949d94c643b599992dc121194aa05ad3298719baa86fff0b10b642699da", func := "loop.example/pub-g03333/laws.FnExactSubOne", spec := "fnExactSubOne", inPlace := ["math/bits.Sub64", "math/bits.Add64"], apart := false, narrowed := true }
def FnExactSubOneUptoSaid : Prop := fnExactSubOneUptoRow.holds Try.pinned (OpenSpec.upto fnExactSubOneSpec)

/-- 'laws.FnExactIsMinusOne', WHERE WHAT IT READS IS OF BULK AT MOST 1048576: true; the input reads as it did. -/
def fnExactIsMinusOneUptoRow : OpenClaim := { program := "ytiiihhohfgepfaa", sum := "c8b83949d94c643b599992dc121194aa05ad3298719baa86fff0b10b642699da", func := "loop.example/pub-g03333/laws.FnExactIsMinusOne", spec := "fnExactIsMinusOne", inPlace := ["math/bits.Sub64", "math/bits.Add64"], apart := false, narrowed := true }
def FnExactIsMinusOneUptoSaid : Prop := fnExactIsMinusOneUptoRow.holds Try.pinned (OpenSpec.upto fnExactIsMinusOneSpec)

/-- 'laws.FnSubTurned', WHERE WHAT IT READS IS OF BULK AT MOST 1048576: true; the input reads as it did. -/
def fnSubTurnedUptoRow : OpenClaim := { program := "ytiiihhohfgepfaa", sum := "c8b83949d94c643b599992dc121194aa05ad3298719baa86fff0b10b642699da", func := "loop.example/pub-g03333/laws.FnSubTurned", spec := "fnSubTurned", inPlace := ["math/bits.Sub64", "math/bits.Add64"], apart := false, narrowed := true }
def FnSubTurnedUptoSaid : Prop := fnSubTurnedUptoRow.holds Try.pinned (OpenSpec.upto fnSubTurnedSpec)

/-- 'laws.FnAddSub', WHERE WHAT IT READS IS OF BULK AT MOST 1048576: true; the input reads as it did. -/
def fnAddSubUptoRow : OpenClaim := { program := "ytiiihhohfgepfaa", sum := "c8b83949d94c643b599992dc121194aa05ad3298719baa86fff0b10b642699da", func := "loop.example/pub-g03333/laws.FnAddSub", spec := "fnAddSub", inPlace := ["math/bits.Sub64", "math/bits.Add64"], apart := false, narrowed := true }
def FnAddSubUptoSaid : Prop := fnAddSubUptoRow.holds Try.pinned (OpenSpec.upto fnAddSubSpec)

/-- 'laws.FnTell', WHERE WHAT IT READS IS OF BULK AT MOST 1048576: true; the input reads as it did. -/
def fnTellUptoRow : OpenClaim := { program := "ytiiihhohfgepfaa", sum := "c8b83949d94c643b599992dc121194aa05ad3298719baa86fff0b10b642699da", func := "loop.example/pub-g03333/laws.FnTell", spec := "fnTell", inPlace := ["math/bits.Sub64", "math/bits.Add64"], apart := false, narrowed := true }
def FnTellUptoSaid : Prop := fnTellUptoRow.holds Try.pinned (OpenSpec.upto fnTellSpec)

/-- 'laws.FnExactExpSelf', WHERE WHAT IT READS IS OF BULK AT MOST 1048576: true; the input reads as it did. -/
def fnExactExpSelfUptoRow : OpenClaim := { program := "ytiiihhohfgepfaa", sum := "c8b83949d94c643b599992dc121194aa05ad3298719baa86fff0b10b642699da", func := "loop.example/pub-g03333/laws.FnExactExpSelf", spec := "fnExactExpSelf", inPlace := ["math/bits.Sub64", "math/bits.Add64"], apart := false, narrowed := true }
def FnExactExpSelfUptoSaid : Prop := fnExactExpSelfUptoRow.holds Try.pinned (OpenSpec.upto fnExactExpSelfSpec)

/-- 'laws.FnMinusOne', WHERE WHAT IT READS IS OF BULK AT MOST 1048576: true; the input reads as it did. -/
def fnMinusOneUptoRow : OpenClaim := { program := "ytiiihhohfgepfaa", sum := "c8b83949d94c643b599992dc121194aa05ad3298719baa86fff0b10b642699da", func := "loop.example/pub-g03333/laws.FnMinusOne", spec := "fnMinusOne", inPlace := ["math/bits.Sub64", "math/bits.Add64"], apart := false, narrowed := true }
def FnMinusOneUptoSaid : Prop := fnMinusOneUptoRow.holds Try.pinned (OpenSpec.upto fnMinusOneSpec)

/-- 'laws.FnExactSquare', WHERE WHAT IT READS IS OF BULK AT MOST 1048576: true; the input reads as it did. -/
def fnExactSquareUptoRow : OpenClaim := { program := "ytiiihhohfgepfaa", sum := "c8b83949d94c643b599992dc121194aa05ad3298719baa86fff0b10b642699da", func := "loop.example/pub-g03333/laws.FnExactSquare", spec := "fnExactSquare", inPlace := ["math/bits.Sub64", "math/bits.Add64"], apart := false, narrowed := true }
def FnExactSquareUptoSaid : Prop := fnExactSquareUptoRow.holds Try.pinned (OpenSpec.upto fnExactSquareSpec)

/-- 'laws.FnMulGroups', WHERE WHAT IT READS IS OF BULK AT MOST 1048576: true; the input reads as it did. -/
def fnMulGroupsUptoRow : OpenClaim := { program := "ytiiihhohfgepfaa", sum := "c8b83949d94c643b599992dc121194aa05ad3298719baa86fff0b10b642699da", func := "loop.example/pub-g03333/laws.FnMulGroups", spec := "fnMulGroups", inPlace := ["math/bits.Sub64", "math/bits.Add64"], apart := false, narrowed := true }
def FnMulGroupsUptoSaid : Prop := fnMulGroupsUptoRow.holds Try.pinned (OpenSpec.upto fnMulGroupsSpec)

/-- 'laws.FnMulOrder', WHERE WHAT IT READS IS OF BULK AT MOST 1048576: true; the input reads as it did. -/
def fnMulOrderUptoRow : OpenClaim := { program := "ytiiihhohfgepfaa", sum := "c8b83949d94c643b599992dc121194aa05ad3298719baa86fff0b10b642699da", func := "loop.example/pub-g03333/laws.FnMulOrder", spec := "fnMulOrder", inPlace := ["math/bits.Sub64", "math/bits.Add64"], apart := false, narrowed := true }
def FnMulOrderUptoSaid : Prop := fnMulOrderUptoRow.holds Try.pinned (OpenSpec.upto fnMulOrderSpec)

/-- 'laws.FnMulSpread', WHERE WHAT IT READS IS OF BULK AT MOST 1048576: true; the input reads as it did. -/
def fnMulSpreadUptoRow : OpenClaim := { program := "ytiiihhohfgepfaa", sum := "c8b83949d94c643b599992dc121194aa05ad3298719baa86fff0b10b642699da", func := "loop.example/pub-g03333/laws.FnMulSpread", spec := "fnMulSpread", inPlace := ["math/bits.Sub64", "math/bits.Add64"], apart := false, narrowed := true }
def FnMulSpreadUptoSaid : Prop := fnMulSpreadUptoRow.holds Try.pinned (OpenSpec.upto fnMulSpreadSpec)

/-- 'laws.FnSquares', WHERE WHAT IT READS IS OF BULK AT MOST 1048576: true; the input reads as it did. -/
def fnSquaresUptoRow : OpenClaim := { program := "ytiiihhohfgepfaa", sum := "c8b83949d94c643b599992dc121194aa05ad3298719baa86fff0b10b642699da", func := "loop.example/pub-g03333/laws.FnSquares", spec := "fnSquares", inPlace := ["math/bits.Sub64", "math/bits.Add64"], apart := false, narrowed := true }
def FnSquaresUptoSaid : Prop := fnSquaresUptoRow.holds Try.pinned (OpenSpec.upto fnSquaresSpec)

/-- 'laws.FnZero', WHERE WHAT IT READS IS OF BULK AT MOST 1048576: true; the input reads as it did. -/
def fnZeroUptoRow : OpenClaim := { program := "ytiiihhohfgepfaa", sum := "c8b83949d94c643b599992dc121194aa05ad3298719baa86fff0b10b642699da", func := "loop.example/pub-g03333/laws.FnZero", spec := "fnZero", inPlace := ["math/bits.Sub64", "math/bits.Add64"], apart := false, narrowed := true }
def FnZeroUptoSaid : Prop := fnZeroUptoRow.holds Try.pinned (OpenSpec.upto fnZeroSpec)

/-- 'laws.FnMinusOneTimes', WHERE WHAT IT READS IS OF BULK AT MOST 1048576: true; the input reads as it did. -/
def fnMinusOneTimesUptoRow : OpenClaim := { program := "ytiiihhohfgepfaa", sum := "c8b83949d94c643b599992dc121194aa05ad3298719baa86fff0b10b642699da", func := "loop.example/pub-g03333/laws.FnMinusOneTimes", spec := "fnMinusOneTimes", inPlace := ["math/bits.Sub64", "math/bits.Add64"], apart := false, narrowed := true }
def FnMinusOneTimesUptoSaid : Prop := fnMinusOneTimesUptoRow.holds Try.pinned (OpenSpec.upto fnMinusOneTimesSpec)

end Rows
end Go.Proofs.Ytiiihhohfgepfaa
