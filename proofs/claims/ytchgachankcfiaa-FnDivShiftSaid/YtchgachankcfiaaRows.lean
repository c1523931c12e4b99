/-
  No cell of these rows narrows 'for every input' (looked for: loops, veiled, ifaces, maps, wideKeys, modest, calm, conditions, laid).
  DERIVED. THE GIVEN ROWS OF THIS SEAT. 8 by the template 'for every input the law returns true; each argument reads behind the call as it read before'; 0 by the template 'total and deterministic' (their statements: YtchgachankcfiaaTotals.lean).
  GIVEN WITH THE SEED: the statements are not yours to turn. If you find one false, say at which input.
  Laid BY PROGRAM, IN A SANDBOX (cutbox-rows.mjs): the forced cells as the released guide's own fill.sh prints them over the translation 11ee9c8997269920… (all of the seat's roots in one cut). By AI agents, Wed Nov 11 2026. No macro, syntax, notation, axiom, sorry.
-/
import Derived.Test.YtchgachankcfiaaChecked
import GoSem.Claim
import GoSem.ClaimJoined
import GoSem.ClaimMapViews
import Derived.JoinedTies
import Derived.KernelRfl
namespace Go.Proofs.Ytchgachankcfiaa
/- THE CELL 'sum', in the pinned program and in every row, IS THE sha256 OF THE DUMP (.gsa) THAT YtchgachankcfiaaProg.lean LOADS. Nothing in Lean hashes anything: it is a label: what it is worth is what the hold of that sum in a sandbox is worth. -/
noncomputable def Try.pinned : Pinned := { name := "ytchgachankcfiaa", sum := "11ee9c89972699205fa7122085cacea5d3e2434baffa355b1147490a1a5be026", checked := Try.checked }
namespace Rows
def none {H : Type} : Left H := { results := [], args := [] }

/-- 'laws.FnExactBitLen': WHATEVER THE INPUT: true; the input reads as it did. -/
def fnExactBitLenSpec : ChangeSpec := { name := "fnExactBitLen", fn := fun _ => fun
  | [d] => { results := [.lit (.bool true)], args := [d] }
  | _ => none }
def fnExactBitLenRow : OpenClaim := { program := "ytchgachankcfiaa", sum := "11ee9c89972699205fa7122085cacea5d3e2434baffa355b1147490a1a5be026", func := "loop.example/pub-g03333/laws.FnExactBitLen", spec := "fnExactBitLen", apart := false }
def FnExactBitLenSaid : Prop := fnExactBitLenRow.holds Try.pinned (OpenSpec.ofChange fnExactBitLenSpec)

/-- ITS FALSE NEIGHBOUR: 'it returns false'. Refute it at one input. -/
def fnExactBitLenWrong : ChangeSpec := { name := "fnExactBitLen", fn := fun _ => fun
  | [d] => { results := [.lit (.bool false)], args := [d] }
  | _ => none }
def FnExactBitLenWrongFalsely : Prop := fnExactBitLenRow.holds Try.pinned (OpenSpec.ofChange fnExactBitLenWrong)

/-- 'laws.FnExactShiftRightOne': WHATEVER THE INPUT: true; the input reads as it did. -/
def fnExactShiftRightOneSpec : ChangeSpec := { name := "fnExactShiftRightOne", fn := fun _ => fun
  | [d] => { results := [.lit (.bool true)], args := [d] }
  | _ => none }
def fnExactShiftRightOneRow : OpenClaim := { program := "ytchgachankcfiaa", sum := "11ee9c89972699205fa7122085cacea5d3e2434baffa355b1147490a1a5be026", func := "loop.example/pub-g03333/laws.FnExactShiftRightOne", spec := "fnExactShiftRightOne", apart := false }
def FnExactShiftRightOneSaid : Prop := fnExactShiftRightOneRow.holds Try.pinned (OpenSpec.ofChange fnExactShiftRightOneSpec)

/-- ITS FALSE NEIGHBOUR: 'it returns false'. Refute it at one input. -/
def fnExactShiftRightOneWrong : ChangeSpec := { name := "fnExactShiftRightOne", fn := fun _ => fun
  | [d] => { results := [.lit (.bool false)], args := [d] }
  | _ => none }
def FnExactShiftRightOneWrongFalsely : Prop := fnExactShiftRightOneRow.holds Try.pinned (OpenSpec.ofChange fnExactShiftRightOneWrong)

/-- 'laws.FnExactShiftRight': WHATEVER THE INPUT: true; the input reads as it did. -/
def fnExactShiftRightSpec : ChangeSpec := { name := "fnExactShiftRight", fn := fun _ => fun
  | [d1, d2] => { results := [.lit (.bool true)], args := [d1, d2] }
  | _ => none }
def fnExactShiftRightRow : OpenClaim := { program := "ytchgachankcfiaa", sum := "11ee9c89972699205fa7122085cacea5d3e2434baffa355b1147490a1a5be026", func := "loop.example/pub-g03333/laws.FnExactShiftRight", spec := "fnExactShiftRight", apart := false }
def FnExactShiftRightSaid : Prop := fnExactShiftRightRow.holds Try.pinned (OpenSpec.ofChange fnExactShiftRightSpec)

/-- ITS FALSE NEIGHBOUR: 'it returns false'. Refute it at one input. -/
def fnExactShiftRightWrong : ChangeSpec := { name := "fnExactShiftRight", fn := fun _ => fun
  | [d1, d2] => { results := [.lit (.bool false)], args := [d1, d2] }
  | _ => none }
def FnExactShiftRightWrongFalsely : Prop := fnExactShiftRightRow.holds Try.pinned (OpenSpec.ofChange fnExactShiftRightWrong)

/-- 'laws.FnShiftSteps': WHATEVER THE INPUT: true; the input reads as it did. -/
def fnShiftStepsSpec : ChangeSpec := { name := "fnShiftSteps", fn := fun _ => fun
  | [d1, d2, d3] => { results := [.lit (.bool true)], args := [d1, d2, d3] }
  | _ => none }
def fnShiftStepsRow : OpenClaim := { program := "ytchgachankcfiaa", sum := "11ee9c89972699205fa7122085cacea5d3e2434baffa355b1147490a1a5be026", func := "loop.example/pub-g03333/laws.FnShiftSteps", spec := "fnShiftSteps", apart := false }
def FnShiftStepsSaid : Prop := fnShiftStepsRow.holds Try.pinned (OpenSpec.ofChange fnShiftStepsSpec)

/-- ITS FALSE NEIGHBOUR: 'it returns false'. Refute it at one input. -/
def fnShiftStepsWrong : ChangeSpec := { name := "fnShiftSteps", fn := fun _ => fun
  | [d1, d2, d3] => { results := [.lit (.bool false)], args := [d1, d2, d3] }
  | _ => none }
def FnShiftStepsWrongFalsely : Prop := fnShiftStepsRow.holds Try.pinned (OpenSpec.ofChange fnShiftStepsWrong)

/-- 'laws.FnExactDivShort': WHATEVER THE INPUT: true; the input reads as it did. -/
def fnExactDivShortSpec : ChangeSpec := { name := "fnExactDivShort", fn := fun _ => fun
  | [d1, d2] => { results := [.lit (.bool true)], args := [d1, d2] }
  | _ => none }
def fnExactDivShortRow : OpenClaim := { program := "ytchgachankcfiaa", sum := "11ee9c89972699205fa7122085cacea5d3e2434baffa355b1147490a1a5be026", func := "loop.example/pub-g03333/laws.FnExactDivShort", spec := "fnExactDivShort", apart := false }
def FnExactDivShortSaid : Prop := fnExactDivShortRow.holds Try.pinned (OpenSpec.ofChange fnExactDivShortSpec)

/-- ITS FALSE NEIGHBOUR: 'it returns false'. Refute it at one input. -/
def fnExactDivShortWrong : ChangeSpec := { name := "fnExactDivShort", fn := fun _ => fun
  | [d1, d2] => { results := [.lit (.bool false)], args := [d1, d2] }
  | _ => none }
def FnExactDivShortWrongFalsely : Prop := fnExactDivShortRow.holds Try.pinned (OpenSpec.ofChange fnExactDivShortWrong)

/-- 'laws.FnDivShift': WHATEVER THE INPUT: true; the input reads as it did. -/
def fnDivShiftSpec : ChangeSpec := { name := "fnDivShift", fn := fun _ => fun
  | [d1, d2] => { results := [.lit (.bool true)], args := [d1, d2] }
  | _ => none }
def fnDivShiftRow : OpenClaim := { program := "ytchgachankcfiaa", sum := "11ee9c89972699205fa7122085cacea5d3e2434baffa355b1147490a1a5be026", func := "loop.example/pub-g03333/laws.FnDivShift", spec := "fnDivShift", apart := false }
def FnDivShiftSaid : Prop := fnDivShiftRow.holds Try.pinned (OpenSpec.ofChange fnDivShiftSpec)

/-- ITS FALSE NEIGHBOUR: 'it returns false'. Refute it at one input. -/
def fnDivShiftWrong : ChangeSpec := { name := "fnDivShift", fn := fun _ => fun
  | [d1, d2] => { results := [.lit (.bool false)], args := [d1, d2] }
  | _ => none }
def FnDivShiftWrongFalsely : Prop := fnDivShiftRow.holds Try.pinned (OpenSpec.ofChange fnDivShiftWrong)

/-- 'laws.FnExactGCD': WHATEVER THE INPUT: true; the input reads as it did. -/
def fnExactGCDSpec : ChangeSpec := { name := "fnExactGCD", fn := fun _ => fun
  | [d1, d2] => { results := [.lit (.bool true)], args := [d1, d2] }
  | _ => none }
def fnExactGCDRow : OpenClaim := { program := "ytchgachankcfiaa", sum := "11ee9c89972699205fa7122085cacea5d3e2434baffa355b1147490a1a5be026", func := "loop.example/pub-g03333/laws.FnExactGCD", spec := "fnExactGCD", inPlace := ["math/bits.Sub64", "math/bits.Add64"], unfollowed := true, recurses := true, apart := false }
def FnExactGCDSaid : Prop := fnExactGCDRow.holds Try.pinned (OpenSpec.ofChange fnExactGCDSpec)

/-- ITS FALSE NEIGHBOUR: 'it returns false'. Refute it at one input. -/
def fnExactGCDWrong : ChangeSpec := { name := "fnExactGCD", fn := fun _ => fun
  | [d1, d2] => { results := [.lit (.bool false)], args := [d1, d2] }
  | _ => none }
def FnExactGCDWrongFalsely : Prop := fnExactGCDRow.holds Try.pinned (OpenSpec.ofChange fnExactGCDWrong)

/-- 'laws.FnGCDOrder': WHATEVER THE INPUT: true; the input reads as it did. -/
def fnGCDOrderSpec : ChangeSpec := { name := "fnGCDOrder", fn := fun _ => fun
  | [d1, d2] => { results := [.lit (.bool true)], args := [d1, d2] }
  | _ => none }
def fnGCDOrderRow : OpenClaim := { program := "ytchgachankcfiaa", sum := "11ee9c89972699205fa7122085cacea5d3e2434baffa355b1147490a1a5be026", func := "loop.example/pub-g03333/laws.FnGCDOrder", spec := "fnGCDOrder", inPlace := ["math/bits.Sub64", "math/bits.Add64"], unfollowed := true, recurses := true, apart := false }
def FnGCDOrderSaid : Prop := fnGCDOrderRow.holds Try.pinned (OpenSpec.ofChange fnGCDOrderSpec)

/-- ITS FALSE NEIGHBOUR: 'it returns false'. Refute it at one input. -/
def fnGCDOrderWrong : ChangeSpec := { name := "fnGCDOrder", fn := fun _ => fun
  | [d1, d2] => { results := [.lit (.bool false)], args := [d1, d2] }
  | _ => none }
def FnGCDOrderWrongFalsely : Prop := fnGCDOrderRow.holds Try.pinned (OpenSpec.ofChange fnGCDOrderWrong)

/- THE SECOND FORM. 'bulk': how many values and letters a reading holds, each counted each time it is reached (what is shared counts as often as it is met; a slice's spare places count too). A statement '..UptoSaid' is the law's where the arguments, and the package variables that the reading takes, are together of bulk at most 1048576: NARROWER than '..Said'. Prove '..Said' where nothing that the law and all that it calls make is longer than what came in: it says more and counts as full. Else prove '..UptoSaid'. A law counts once. -/
mutual
def uptoBulk {H : Type} : DataW H → Nat
  | .lit (.string bytes) => bytes.length + 1
  | .lit _ => 1
  | .nil => 1
  | .ptr d => uptoBulk d + 1
  | .slice elems spare => uptoBulkAll elems + uptoBulkAll spare + 1
  | .agg parts => uptoBulkAll parts + 1
  | .iface _ d => uptoBulk d + 1
  | .map entries => uptoBulkEntries entries + 1
  | .held _ => 1
def uptoBulkAll {H : Type} : List (DataW H) → Nat
  | [] => 0
  | d :: r => uptoBulk d + uptoBulkAll r
def uptoBulkEntries {H : Type} : List (Lit × DataW H) → Nat
  | [] => 0
  | x :: r => uptoBulkEntry x + uptoBulkEntries r
def uptoBulkEntry {H : Type} : Lit × DataW H → Nat
  | (.string bytes, d) => bytes.length + uptoBulk d + 1
  | (_, d) => uptoBulk d + 1
 end
def uptoSmall : (H : Type) → List (DataW H) → Bool := fun _ ds => decide (uptoBulkAll ds ≤ 1048576)
def OpenSpec.upto (s : _root_.Go.ChangeSpec) : _root_.Go.OpenSpec := { _root_.Go.OpenSpec.ofChange s with cond := some uptoSmall }

/-- 'laws.FnExactBitLen', WHERE WHAT IT READS IS OF BULK AT MOST 1048576: true; the input reads as it did. -/
def fnExactBitLenUptoRow : OpenClaim := { program := "ytchgachankcfiaa", sum := "11ee9c89972699205fa7122085cacea5d3e2434baffa355b1147490a1a5be026", func := "loop.example/pub-g03333/laws.FnExactBitLen", spec := "fnExactBitLen", apart := false, narrowed := true }
def FnExactBitLenUptoSaid : Prop := fnExactBitLenUptoRow.holds Try.pinned (OpenSpec.upto fnExactBitLenSpec)

/-- 'laws.FnExactShiftRightOne', WHERE WHAT IT READS IS OF BULK AT MOST 1048576: true; the input reads as it did. -/
def fnExactShiftRightOneUptoRow : OpenClaim := { program := "ytchgachankcfiaa", sum := "11ee9c89972699205fa7122085cacea5d3e2434baffa355b1147490a1a5be026", func := "loop.example/pub-g03333/laws.FnExactShiftRightOne", spec := "fnExactShiftRightOne", apart := false, narrowed := true }
def FnExactShiftRightOneUptoSaid : Prop := fnExactShiftRightOneUptoRow.holds Try.pinned (OpenSpec.upto fnExactShiftRightOneSpec)

/-- 'laws.FnExactShiftRight', WHERE WHAT IT READS IS OF BULK AT MOST 1048576: true; the input reads as it did. -/
def fnExactShiftRightUptoRow : OpenClaim := { program := "ytchgachankcfiaa", sum := "11ee9c89972699205fa7122085cacea5d3e2434baffa355b1147490a1a5be026", func := "loop.example/pub-g03333/laws.FnExactShiftRight", spec := "fnExactShiftRight", apart := false, narrowed := true }
def FnExactShiftRightUptoSaid : Prop := fnExactShiftRightUptoRow.holds Try.pinned (OpenSpec.upto fnExactShiftRightSpec)

/-- 'laws.FnShiftSteps', WHERE WHAT IT READS IS OF BULK AT MOST 1048576: true; the input reads as it did. -/
def fnShiftStepsUptoRow : OpenClaim := { program := "ytchgachankcfiaa", sum := "11ee9c89972699205fa7122085cacea5d3e2434baffa355b1147490a1a5be026", func := "loop.example/pub-g03333/laws.FnShiftSteps", spec := "fnShiftSteps", apart := false, narrowed := true }
def FnShiftStepsUptoSaid : Prop := fnShiftStepsUptoRow.holds Try.pinned (OpenSpec.upto fnShiftStepsSpec)

/-- 'laws.FnExactDivShort', WHERE WHAT IT READS IS OF BULK AT MOST 1048576: true; the input reads as it did. -/
def fnExactDivShortUptoRow : OpenClaim := { program := "ytchgachankcfiaa", sum := "11ee9c89972699205fa7122085cacea5d3e2434baffa355b1147490a1a5be026", func := "loop.example/pub-g03333/laws.FnExactDivShort", spec := "fnExactDivShort", apart := false, narrowed := true }
def FnExactDivShortUptoSaid : Prop := fnExactDivShortUptoRow.holds Try.pinned (OpenSpec.upto fnExactDivShortSpec)

/-- 'laws.FnDivShift', WHERE WHAT IT READS IS OF BULK AT MOST 1048576: true; the input reads as it did. -/
def fnDivShiftUptoRow : OpenClaim := { program := "ytchgachankcfiaa", sum := "11ee9c89972699205fa7122085cacea5d3e2434baffa355b1147490a1a5be026", func := "loop.example/pub-g03333/laws.FnDivShift", spec := "fnDivShift", apart := false, narrowed := true }
def FnDivShiftUptoSaid : Prop := fnDivShiftUptoRow.holds Try.pinned (OpenSpec.upto fnDivShiftSpec)

/-- 'laws.FnExactGCD', WHERE WHAT IT READS IS OF BULK AT MOST 1048576: true; the input reads as it did. -/
def fnExactGCDUptoRow : OpenClaim := { program := "ytchgachankcfiaa", sum := "11ee9c89972699205fa7122085cacea5d3e2434baffa355b1147490a1a5be026", func := "loop.example/pub-g03333/laws.FnExactGCD", spec := "fnExactGCD", inPlace := ["math/bits.Sub64", "math/bits.Add64"], unfollowed := true, recurses := true, apart := false, narrowed := true }
def FnExactGCDUptoSaid : Prop := fnExactGCDUptoRow.holds Try.pinned (OpenSpec.upto fnExactGCDSpec)

/-- 'laws.FnGCDOrder', WHERE WHAT IT READS IS OF BULK AT MOST 1048576: true; the input reads as it did. -/
def fnGCDOrderUptoRow : OpenClaim := { program := "ytchgachankcfiaa", sum := "11ee9c89972699205fa7122085cacea5d3e2434baffa355b1147490a1a5be026", func := "loop.example/pub-g03333/laws.FnGCDOrder", spec := "fnGCDOrder", inPlace := ["math/bits.Sub64", "math/bits.Add64"], unfollowed := true, recurses := true, apart := false, narrowed := true }
def FnGCDOrderUptoSaid : Prop := fnGCDOrderUptoRow.holds Try.pinned (OpenSpec.upto fnGCDOrderSpec)

end Rows
end Go.Proofs.Ytchgachankcfiaa
