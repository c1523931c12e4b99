/-
  No cell of these rows narrows 'for every input' (looked for: loops, veiled, ifaces, maps, wideKeys, modest, calm, conditions, laid).
  DERIVED. THE GIVEN ROWS OF THIS SEAT. 20 by the template 'for every input the law returns true; each argument reads behind the call as it read before'; 0 by the template 'total and deterministic' (their statements: YtmbghmjllipbhaaTotals.lean).
  GIVEN WITH THE SEED: the statements are not yours to turn. If you find one false, say at which input.
  Laid BY PROGRAM, IN A SANDBOX (cutbox-rows.mjs): the forced cells as the released guide's own fill.sh prints them over the translation fccc7a75d5691209… (all of the seat's roots in one cut). By AI agents, Wed Nov 11 2026. No macro, syntax, notation, axiom, sorry.
-/
import Derived.Test.YtmbghmjllipbhaaChecked
import GoSem.Claim
import GoSem.ClaimJoined
import GoSem.ClaimMapViews
import Derived.JoinedTies
import Derived.KernelRfl
namespace Go.Proofs.Ytmbghmjllipbhaa
/- THE CELL 'sum', in the pinned program and in every row, IS THE sha256 OF THE DUMP (.gsa) THAT YtmbghmjllipbhaaProg.lean LOADS. Nothing in Lean hashes anything: it is a label: what it is worth is what the hold of that sum in a sandbox is worth. -/
noncomputable def Try.pinned : Pinned := { name := "ytmbghmjllipbhaa", sum := "fccc7a75d56912096eac4ac938c6e9caaac28fe2e4af37fd3ad93f00f6d66153", checked := Try.checked }
namespace Rows
def none {H : Type} : Left H := { results := [], args := [] }

/-- 'laws.FnInverseOne': WHATEVER THE INPUT: true; the input reads as it did. -/
def fnInverseOneSpec : ChangeSpec := { name := "fnInverseOne", fn := fun _ => fun
  | [d1, d2] => { results := [.lit (.bool true)], args := [d1, d2] }
  | _ => none }
def fnInverseOneRow : OpenClaim := { program := "ytmbghmjllipbhaa", sum := "fccc7a75d56912096eac4ac938c6e9caaac28fe2e4af37fd3ad93f00f6d66153", func := "loop.example/pub-g03333/laws.FnInverseOne", spec := "fnInverseOne", inPlace := ["math/bits.Sub64", "math/bits.Add64"], apart := false }
def FnInverseOneSaid : Prop := fnInverseOneRow.holds Try.pinned (OpenSpec.ofChange fnInverseOneSpec)

/-- ITS FALSE NEIGHBOUR: 'it returns false'. Refute it at one input. -/
def fnInverseOneWrong : ChangeSpec := { name := "fnInverseOne", fn := fun _ => fun
  | [d1, d2] => { results := [.lit (.bool false)], args := [d1, d2] }
  | _ => none }
def FnInverseOneWrongFalsely : Prop := fnInverseOneRow.holds Try.pinned (OpenSpec.ofChange fnInverseOneWrong)

/-- 'laws.FnExactGCD': WHATEVER THE INPUT: true; the input reads as it did. -/
def fnExactGCDSpec : ChangeSpec := { name := "fnExactGCD", fn := fun _ => fun
  | [d1, d2] => { results := [.lit (.bool true)], args := [d1, d2] }
  | _ => none }
def fnExactGCDRow : OpenClaim := { program := "ytmbghmjllipbhaa", sum := "fccc7a75d56912096eac4ac938c6e9caaac28fe2e4af37fd3ad93f00f6d66153", func := "loop.example/pub-g03333/laws.FnExactGCD", spec := "fnExactGCD", inPlace := ["math/bits.Sub64", "math/bits.Add64"], unfollowed := true, recurses := true, apart := false }
def FnExactGCDSaid : Prop := fnExactGCDRow.holds Try.pinned (OpenSpec.ofChange fnExactGCDSpec)

/-- ITS FALSE NEIGHBOUR: 'it returns false'. Refute it at one input. -/
def fnExactGCDWrong : ChangeSpec := { name := "fnExactGCD", fn := fun _ => fun
  | [d1, d2] => { results := [.lit (.bool false)], args := [d1, d2] }
  | _ => none }
def FnExactGCDWrongFalsely : Prop := fnExactGCDRow.holds Try.pinned (OpenSpec.ofChange fnExactGCDWrong)

/-- 'laws.FnGCDOrder': WHATEVER THE INPUT: true; the input reads as it did. -/
def fnGCDOrderSpec : ChangeSpec := { name := "fnGCDOrder", fn := fun _ => fun
  | [d1, d2] => { results := [.lit (.bool true)], args := [d1, d2] }
  | _ => none }
def fnGCDOrderRow : OpenClaim := { program := "ytmbghmjllipbhaa", sum := "fccc7a75d56912096eac4ac938c6e9caaac28fe2e4af37fd3ad93f00f6d66153", func := "loop.example/pub-g03333/laws.FnGCDOrder", spec := "fnGCDOrder", inPlace := ["math/bits.Sub64", "math/bits.Add64"], unfollowed := true, recurses := true, apart := false }
def FnGCDOrderSaid : Prop := fnGCDOrderRow.holds Try.pinned (OpenSpec.ofChange fnGCDOrderSpec)

/-- ITS FALSE NEIGHBOUR: 'it returns false'. Refute it at one input. -/
def fnGCDOrderWrong : ChangeSpec := { name := "fnGCDOrder", fn := fun _ => fun
  | [d1, d2] => { results := [.lit (.bool false)], args := [d1, d2] }
  | _ => none }
def FnGCDOrderWrongFalsely : Prop := fnGCDOrderRow.holds Try.pinned (OpenSpec.ofChange fnGCDOrderWrong)

/-- 'laws.FnExactModulusSize': WHATEVER THE INPUT: true; the input reads as it did. -/
def fnExactModulusSizeSpec : ChangeSpec := { name := "fnExactModulusSize", fn := fun _ => fun
  | [d] => { results := [.lit (.bool true)], args := [d] }
  | _ => none }
def fnExactModulusSizeRow : OpenClaim := { program := "ytmbghmjllipbhaa", sum := "fccc7a75d56912096eac4ac938c6e9caaac28fe2e4af37fd3ad93f00f6d66153", func := "loop.example/pub-g03333/laws.FnExactModulusSize", spec := "fnExactModulusSize", inPlace := ["math/bits.Sub64", "math/bits.Add64"], apart := false }
def FnExactModulusSizeSaid : Prop := fnExactModulusSizeRow.holds Try.pinned (OpenSpec.ofChange fnExactModulusSizeSpec)

/-- ITS FALSE NEIGHBOUR: 'it returns false'. Refute it at one input. -/
def fnExactModulusSizeWrong : ChangeSpec := { name := "fnExactModulusSize", fn := fun _ => fun
  | [d] => { results := [.lit (.bool false)], args := [d] }
  | _ => none }
def FnExactModulusSizeWrongFalsely : Prop := fnExactModulusSizeRow.holds Try.pinned (OpenSpec.ofChange fnExactModulusSizeWrong)

/-- 'laws.FnExactModulusBytes': WHATEVER THE INPUT: true; the input reads as it did. -/
def fnExactModulusBytesSpec : ChangeSpec := { name := "fnExactModulusBytes", fn := fun _ => fun
  | [d] => { results := [.lit (.bool true)], args := [d] }
  | _ => none }
def fnExactModulusBytesRow : OpenClaim := { program := "ytmbghmjllipbhaa", sum := "fccc7a75d56912096eac4ac938c6e9caaac28fe2e4af37fd3ad93f00f6d66153", func := "loop.example/pub-g03333/laws.FnExactModulusBytes", spec := "fnExactModulusBytes", inPlace := ["math/bits.Sub64", "math/bits.Add64"], apart := false }
def FnExactModulusBytesSaid : Prop := fnExactModulusBytesRow.holds Try.pinned (OpenSpec.ofChange fnExactModulusBytesSpec)

/-- ITS FALSE NEIGHBOUR: 'it returns false'. Refute it at one input. -/
def fnExactModulusBytesWrong : ChangeSpec := { name := "fnExactModulusBytes", fn := fun _ => fun
  | [d] => { results := [.lit (.bool false)], args := [d] }
  | _ => none }
def FnExactModulusBytesWrongFalsely : Prop := fnExactModulusBytesRow.holds Try.pinned (OpenSpec.ofChange fnExactModulusBytesWrong)

/-- 'laws.FnExactModulusProduct': WHATEVER THE INPUT: true; the input reads as it did. -/
def fnExactModulusProductSpec : ChangeSpec := { name := "fnExactModulusProduct", fn := fun _ => fun
  | [d1, d2] => { results := [.lit (.bool true)], args := [d1, d2] }
  | _ => none }
def fnExactModulusProductRow : OpenClaim := { program := "ytmbghmjllipbhaa", sum := "fccc7a75d56912096eac4ac938c6e9caaac28fe2e4af37fd3ad93f00f6d66153", func := "loop.example/pub-g03333/laws.FnExactModulusProduct", spec := "fnExactModulusProduct", inPlace := ["math/bits.Add64", "math/bits.Sub64"], apart := false }
def FnExactModulusProductSaid : Prop := fnExactModulusProductRow.holds Try.pinned (OpenSpec.ofChange fnExactModulusProductSpec)

/-- ITS FALSE NEIGHBOUR: 'it returns false'. Refute it at one input. -/
def fnExactModulusProductWrong : ChangeSpec := { name := "fnExactModulusProduct", fn := fun _ => fun
  | [d1, d2] => { results := [.lit (.bool false)], args := [d1, d2] }
  | _ => none }
def FnExactModulusProductWrongFalsely : Prop := fnExactModulusProductRow.holds Try.pinned (OpenSpec.ofChange fnExactModulusProductWrong)

/-- 'laws.FnExactIsOdd': WHATEVER THE INPUT: true; the input reads as it did. -/
def fnExactIsOddSpec : ChangeSpec := { name := "fnExactIsOdd", fn := fun _ => fun
  | [d1, d2] => { results := [.lit (.bool true)], args := [d1, d2] }
  | _ => none }
def fnExactIsOddRow : OpenClaim := { program := "ytmbghmjllipbhaa", sum := "fccc7a75d56912096eac4ac938c6e9caaac28fe2e4af37fd3ad93f00f6d66153", func := "loop.example/pub-g03333/laws.FnExactIsOdd", spec := "fnExactIsOdd", inPlace := ["math/bits.Sub64", "math/bits.Add64"], apart := false }
def FnExactIsOddSaid : Prop := fnExactIsOddRow.holds Try.pinned (OpenSpec.ofChange fnExactIsOddSpec)

/-- ITS FALSE NEIGHBOUR: 'it returns false'. Refute it at one input. -/
def fnExactIsOddWrong : ChangeSpec := { name := "fnExactIsOdd", fn := fun _ => fun
  | [d1, d2] => { results := [.lit (.bool false)], args := [d1, d2] }
  | _ => none }
def FnExactIsOddWrongFalsely : Prop := fnExactIsOddRow.holds Try.pinned (OpenSpec.ofChange fnExactIsOddWrong)

/-- 'laws.FnExactIsOne': WHATEVER THE INPUT: true; the input reads as it did. -/
def fnExactIsOneSpec : ChangeSpec := { name := "fnExactIsOne", fn := fun _ => fun
  | [d1, d2] => { results := [.lit (.bool true)], args := [d1, d2] }
  | _ => none }
def fnExactIsOneRow : OpenClaim := { program := "ytmbghmjllipbhaa", sum := "fccc7a75d56912096eac4ac938c6e9caaac28fe2e4af37fd3ad93f00f6d66153", func := "loop.example/pub-g03333/laws.FnExactIsOne", spec := "fnExactIsOne", inPlace := ["math/bits.Sub64", "math/bits.Add64"], apart := false }
def FnExactIsOneSaid : Prop := fnExactIsOneRow.holds Try.pinned (OpenSpec.ofChange fnExactIsOneSpec)

/-- ITS FALSE NEIGHBOUR: 'it returns false'. Refute it at one input. -/
def fnExactIsOneWrong : ChangeSpec := { name := "fnExactIsOne", fn := fun _ => fun
  | [d1, d2] => { results := [.lit (.bool false)], args := [d1, d2] }
  | _ => none }
def FnExactIsOneWrongFalsely : Prop := fnExactIsOneRow.holds Try.pinned (OpenSpec.ofChange fnExactIsOneWrong)

/-- 'laws.FnExactIsZero': WHATEVER THE INPUT: true; the input reads as it did. -/
def fnExactIsZeroSpec : ChangeSpec := { name := "fnExactIsZero", fn := fun _ => fun
  | [d1, d2] => { results := [.lit (.bool true)], args := [d1, d2] }
  | _ => none }
def fnExactIsZeroRow : OpenClaim := { program := "ytmbghmjllipbhaa", sum := "fccc7a75d56912096eac4ac938c6e9caaac28fe2e4af37fd3ad93f00f6d66153", func := "loop.example/pub-g03333/laws.FnExactIsZero", spec := "fnExactIsZero", inPlace := ["math/bits.Sub64", "math/bits.Add64"], apart := false }
def FnExactIsZeroSaid : Prop := fnExactIsZeroRow.holds Try.pinned (OpenSpec.ofChange fnExactIsZeroSpec)

/-- ITS FALSE NEIGHBOUR: 'it returns false'. Refute it at one input. -/
def fnExactIsZeroWrong : ChangeSpec := { name := "fnExactIsZero", fn := fun _ => fun
  | [d1, d2] => { results := [.lit (.bool false)], args := [d1, d2] }
  | _ => none }
def FnExactIsZeroWrongFalsely : Prop := fnExactIsZeroRow.holds Try.pinned (OpenSpec.ofChange fnExactIsZeroWrong)

/-- 'laws.FnExactSetOverflowing': WHATEVER THE INPUT: true; the input reads as it did. -/
def fnExactSetOverflowingSpec : ChangeSpec := { name := "fnExactSetOverflowing", fn := fun _ => fun
  | [d1, d2] => { results := [.lit (.bool true)], args := [d1, d2] }
  | _ => none }
def fnExactSetOverflowingRow : OpenClaim := { program := "ytmbghmjllipbhaa", sum := "fccc7a75d56912096eac4ac938c6e9caaac28fe2e4af37fd3ad93f00f6d66153", func := "loop.example/pub-g03333/laws.FnExactSetOverflowing", spec := "fnExactSetOverflowing", inPlace := ["math/bits.Sub64", "math/bits.Add64"], apart := false }
def FnExactSetOverflowingSaid : Prop := fnExactSetOverflowingRow.holds Try.pinned (OpenSpec.ofChange fnExactSetOverflowingSpec)

/-- ITS FALSE NEIGHBOUR: 'it returns false'. Refute it at one input. -/
def fnExactSetOverflowingWrong : ChangeSpec := { name := "fnExactSetOverflowing", fn := fun _ => fun
  | [d1, d2] => { results := [.lit (.bool false)], args := [d1, d2] }
  | _ => none }
def FnExactSetOverflowingWrongFalsely : Prop := fnExactSetOverflowingRow.holds Try.pinned (OpenSpec.ofChange fnExactSetOverflowingWrong)

/-- 'laws.FnProductOrder': WHATEVER THE INPUT: true; the input reads as it did. -/
def fnProductOrderSpec : ChangeSpec := { name := "fnProductOrder", fn := fun _ => fun
  | [d1, d2] => { results := [.lit (.bool true)], args := [d1, d2] }
  | _ => none }
def fnProductOrderRow : OpenClaim := { program := "ytmbghmjllipbhaa", sum := "fccc7a75d56912096eac4ac938c6e9caaac28fe2e4af37fd3ad93f00f6d66153", func := "loop.example/pub-g03333/laws.FnProductOrder", spec := "fnProductOrder", inPlace := ["math/bits.Add64", "math/bits.Sub64"], apart := false }
def FnProductOrderSaid : Prop := fnProductOrderRow.holds Try.pinned (OpenSpec.ofChange fnProductOrderSpec)

/-- ITS FALSE NEIGHBOUR: 'it returns false'. Refute it at one input. -/
def fnProductOrderWrong : ChangeSpec := { name := "fnProductOrder", fn := fun _ => fun
  | [d1, d2] => { results := [.lit (.bool false)], args := [d1, d2] }
  | _ => none }
def FnProductOrderWrongFalsely : Prop := fnProductOrderRow.holds Try.pinned (OpenSpec.ofChange fnProductOrderWrong)

/-- 'laws.FnExactEqual': WHATEVER THE INPUT: true; the input reads as it did. -/
def fnExactEqualSpec : ChangeSpec := { name := "fnExactEqual", fn := fun _ => fun
  | [d1, d2, d3] => { results := [.lit (.bool true)], args := [d1, d2, d3] }
  | _ => none }
def fnExactEqualRow : OpenClaim := { program := "ytmbghmjllipbhaa", sum := "fccc7a75d56912096eac4ac938c6e9caaac28fe2e4af37fd3ad93f00f6d66153", func := "loop.example/pub-g03333/laws.FnExactEqual", spec := "fnExactEqual", inPlace := ["math/bits.Sub64", "math/bits.Add64"], apart := false }
def FnExactEqualSaid : Prop := fnExactEqualRow.holds Try.pinned (OpenSpec.ofChange fnExactEqualSpec)

/-- ITS FALSE NEIGHBOUR: 'it returns false'. Refute it at one input. -/
def fnExactEqualWrong : ChangeSpec := { name := "fnExactEqual", fn := fun _ => fun
  | [d1, d2, d3] => { results := [.lit (.bool false)], args := [d1, d2, d3] }
  | _ => none }
def FnExactEqualWrongFalsely : Prop := fnExactEqualRow.holds Try.pinned (OpenSpec.ofChange fnExactEqualWrong)

/-- 'laws.FnExactDouble': WHATEVER THE INPUT: true; the input reads as it did. -/
def fnExactDoubleSpec : ChangeSpec := { name := "fnExactDouble", fn := fun _ => fun
  | [d1, d2] => { results := [.lit (.bool true)], args := [d1, d2] }
  | _ => none }
def fnExactDoubleRow : OpenClaim := { program := "ytmbghmjllipbhaa", sum := "fccc7a75d56912096eac4ac938c6e9caaac28fe2e4af37fd3ad93f00f6d66153", func := "loop.example/pub-g03333/laws.FnExactDouble", spec := "fnExactDouble", inPlace := ["math/bits.Sub64", "math/bits.Add64"], apart := false }
def FnExactDoubleSaid : Prop := fnExactDoubleRow.holds Try.pinned (OpenSpec.ofChange fnExactDoubleSpec)

/-- ITS FALSE NEIGHBOUR: 'it returns false'. Refute it at one input. -/
def fnExactDoubleWrong : ChangeSpec := { name := "fnExactDouble", fn := fun _ => fun
  | [d1, d2] => { results := [.lit (.bool false)], args := [d1, d2] }
  | _ => none }
def FnExactDoubleWrongFalsely : Prop := fnExactDoubleRow.holds Try.pinned (OpenSpec.ofChange fnExactDoubleWrong)

/-- 'laws.FnExactSetBytes': WHATEVER THE INPUT: true; the input reads as it did. -/
def fnExactSetBytesSpec : ChangeSpec := { name := "fnExactSetBytes", fn := fun _ => fun
  | [d1, d2] => { results := [.lit (.bool true)], args := [d1, d2] }
  | _ => none }
def fnExactSetBytesRow : OpenClaim := { program := "ytmbghmjllipbhaa", sum := "fccc7a75d56912096eac4ac938c6e9caaac28fe2e4af37fd3ad93f00f6d66153", func := "loop.example/pub-g03333/laws.FnExactSetBytes", spec := "fnExactSetBytes", inPlace := ["math/bits.Sub64", "math/bits.Add64"], apart := false }
def FnExactSetBytesSaid : Prop := fnExactSetBytesRow.holds Try.pinned (OpenSpec.ofChange fnExactSetBytesSpec)

/-- ITS FALSE NEIGHBOUR: 'it returns false'. Refute it at one input. -/
def fnExactSetBytesWrong : ChangeSpec := { name := "fnExactSetBytes", fn := fun _ => fun
  | [d1, d2] => { results := [.lit (.bool false)], args := [d1, d2] }
  | _ => none }
def FnExactSetBytesWrongFalsely : Prop := fnExactSetBytesRow.holds Try.pinned (OpenSpec.ofChange fnExactSetBytesWrong)

/-- 'laws.FnExactSub': WHATEVER THE INPUT: true; the input reads as it did. -/
def fnExactSubSpec : ChangeSpec := { name := "fnExactSub", fn := fun _ => fun
  | [d1, d2, d3] => { results := [.lit (.bool true)], args := [d1, d2, d3] }
  | _ => none }
def fnExactSubRow : OpenClaim := { program := "ytmbghmjllipbhaa", sum := "fccc7a75d56912096eac4ac938c6e9caaac28fe2e4af37fd3ad93f00f6d66153", func := "loop.example/pub-g03333/laws.FnExactSub", spec := "fnExactSub", inPlace := ["math/bits.Sub64", "math/bits.Add64"], apart := false }
def FnExactSubSaid : Prop := fnExactSubRow.holds Try.pinned (OpenSpec.ofChange fnExactSubSpec)

/-- ITS FALSE NEIGHBOUR: 'it returns false'. Refute it at one input. -/
def fnExactSubWrong : ChangeSpec := { name := "fnExactSub", fn := fun _ => fun
  | [d1, d2, d3] => { results := [.lit (.bool false)], args := [d1, d2, d3] }
  | _ => none }
def FnExactSubWrongFalsely : Prop := fnExactSubRow.holds Try.pinned (OpenSpec.ofChange fnExactSubWrong)

/-- 'laws.FnExactMod': WHATEVER THE INPUT: true; the input reads as it did. -/
def fnExactModSpec : ChangeSpec := { name := "fnExactMod", fn := fun _ => fun
  | [d1, d2] => { results := [.lit (.bool true)], args := [d1, d2] }
  | _ => none }
def fnExactModRow : OpenClaim := { program := "ytmbghmjllipbhaa", sum := "fccc7a75d56912096eac4ac938c6e9caaac28fe2e4af37fd3ad93f00f6d66153", func := "loop.example/pub-g03333/laws.FnExactMod", spec := "fnExactMod", inPlace := ["math/bits.Sub64", "math/bits.Add64"], apart := false }
def FnExactModSaid : Prop := fnExactModRow.holds Try.pinned (OpenSpec.ofChange fnExactModSpec)

/-- ITS FALSE NEIGHBOUR: 'it returns false'. Refute it at one input. -/
def fnExactModWrong : ChangeSpec := { name := "fnExactMod", fn := fun _ => fun
  | [d1, d2] => { results := [.lit (.bool false)], args := [d1, d2] }
  | _ => none }
def FnExactModWrongFalsely : Prop := fnExactModRow.holds Try.pinned (OpenSpec.ofChange fnExactModWrong)

/-- 'laws.FnExactExp': WHATEVER THE INPUT: true; the input reads as it did. -/
def fnExactExpSpec : ChangeSpec := { name := "fnExactExp", fn := fun _ => fun
  | [d1, d2, d3] => { results := [.lit (.bool true)], args := [d1, d2, d3] }
  | _ => none }
def fnExactExpRow : OpenClaim := { program := "ytmbghmjllipbhaa", sum := "fccc7a75d56912096eac4ac938c6e9caaac28fe2e4af37fd3ad93f00f6d66153", func := "loop.example/pub-g03333/laws.FnExactExp", spec := "fnExactExp", inPlace := ["math/bits.Sub64", "math/bits.Add64"], apart := false }
def FnExactExpSaid : Prop := fnExactExpRow.holds Try.pinned (OpenSpec.ofChange fnExactExpSpec)

/-- ITS FALSE NEIGHBOUR: 'it returns false'. Refute it at one input. -/
def fnExactExpWrong : ChangeSpec := { name := "fnExactExp", fn := fun _ => fun
  | [d1, d2, d3] => { results := [.lit (.bool false)], args := [d1, d2, d3] }
  | _ => none }
def FnExactExpWrongFalsely : Prop := fnExactExpRow.holds Try.pinned (OpenSpec.ofChange fnExactExpWrong)

/-- 'laws.FnExactExpShort': WHATEVER THE INPUT: true; the input reads as it did. -/
def fnExactExpShortSpec : ChangeSpec := { name := "fnExactExpShort", fn := fun _ => fun
  | [d1, d2, d3] => { results := [.lit (.bool true)], args := [d1, d2, d3] }
  | _ => none }
def fnExactExpShortRow : OpenClaim := { program := "ytmbghmjllipbhaa", sum := "fccc7a75d56912096eac4ac938c6e9caaac28fe2e4af37fd3ad93f00f6d66153", func := "loop.example/pub-g03333/laws.FnExactExpShort", spec := "fnExactExpShort", inPlace := ["math/bits.Sub64", "math/bits.Add64"], apart := false }
def FnExactExpShortSaid : Prop := fnExactExpShortRow.holds Try.pinned (OpenSpec.ofChange fnExactExpShortSpec)

/-- ITS FALSE NEIGHBOUR: 'it returns false'. Refute it at one input. -/
def fnExactExpShortWrong : ChangeSpec := { name := "fnExactExpShort", fn := fun _ => fun
  | [d1, d2, d3] => { results := [.lit (.bool false)], args := [d1, d2, d3] }
  | _ => none }
def FnExactExpShortWrongFalsely : Prop := fnExactExpShortRow.holds Try.pinned (OpenSpec.ofChange fnExactExpShortWrong)

/-- 'laws.FnExactMul': WHATEVER THE INPUT: true; the input reads as it did. -/
def fnExactMulSpec : ChangeSpec := { name := "fnExactMul", fn := fun _ => fun
  | [d1, d2, d3] => { results := [.lit (.bool true)], args := [d1, d2, d3] }
  | _ => none }
def fnExactMulRow : OpenClaim := { program := "ytmbghmjllipbhaa", sum := "fccc7a75d56912096eac4ac938c6e9caaac28fe2e4af37fd3ad93f00f6d66153", func := "loop.example/pub-g03333/laws.FnExactMul", spec := "fnExactMul", inPlace := ["math/bits.Sub64", "math/bits.Add64"], apart := false }
def FnExactMulSaid : Prop := fnExactMulRow.holds Try.pinned (OpenSpec.ofChange fnExactMulSpec)

/-- ITS FALSE NEIGHBOUR: 'it returns false'. Refute it at one input. -/
def fnExactMulWrong : ChangeSpec := { name := "fnExactMul", fn := fun _ => fun
  | [d1, d2, d3] => { results := [.lit (.bool false)], args := [d1, d2, d3] }
  | _ => none }
def FnExactMulWrongFalsely : Prop := fnExactMulRow.holds Try.pinned (OpenSpec.ofChange fnExactMulWrong)

/-- 'laws.FnExactInverse': WHATEVER THE INPUT: true; the input reads as it did. -/
def fnExactInverseSpec : ChangeSpec := { name := "fnExactInverse", fn := fun _ => fun
  | [d1, d2] => { results := [.lit (.bool true)], args := [d1, d2] }
  | _ => none }
def fnExactInverseRow : OpenClaim := { program := "ytmbghmjllipbhaa", sum := "fccc7a75d56912096eac4ac938c6e9caaac28fe2e4af37fd3ad93f00f6d66153", func := "loop.example/pub-g03333/laws.FnExactInverse", spec := "fnExactInverse", inPlace := ["math/bits.Sub64", "math/bits.Add64"], apart := false }
def FnExactInverseSaid : Prop := fnExactInverseRow.holds Try.pinned (OpenSpec.ofChange fnExactInverseSpec)

/-- ITS FALSE NEIGHBOUR: 'it returns false'. Refute it at one input. -/
def fnExactInverseWrong : ChangeSpec := { name := "fnExactInverse", fn := fun _ => fun
  | [d1, d2] => { results := [.lit (.bool false)], args := [d1, d2] }
  | _ => none }
def FnExactInverseWrongFalsely : Prop := fnExactInverseRow.holds Try.pinned (OpenSpec.ofChange fnExactInverseWrong)

/- THE SECOND FORM. 'bulk': how many values and letters a reading holds, each counted each time it is reached (what is shared counts as often as it is met; a slice's spare places count too). A statement '..UptoSaid' is the law's where the arguments, and the package variables that the reading takes, are together of bulk at most 1048576: NARROWER than '..Said'. Prove '..Said' where nothing that the law and all that it calls make is longer than what came in: it says more and counts as full. Else prove '..UptoSaid'. A law counts once. -/
mutual
def uptoBulk {H : Type} : DataW H → Nat
  | .lit (.string bytes) => bytes.length + 1
  | .lit _ => 1
  | .nil => 1
  | .ptr d => uptoBulk d + 1
  | .slice elems spare => uptoBulkAll elems + uptoBulkAll spare + 1
  | .agg parts => uptoBulkAll parts + 1
  | .iface _ d => uptoBulk d + 1
  | .map entries => uptoBulkEntries entries + 1
  | .held _ => 1
def uptoBulkAll {H : Type} : List (DataW H) → Nat
  | [] => 0
  | d :: r => uptoBulk d + uptoBulkAll r
def uptoBulkEntries {H : Type} : List (Lit × DataW H) → Nat
  | [] => 0
  | x :: r => uptoBulkEntry x + uptoBulkEntries r
def uptoBulkEntry {H : Type} : Lit × DataW H → Nat
  | (.string bytes, d) => bytes.length + uptoBulk d + 1
  | (_, d) => uptoBulk d + 1
 end
def uptoSmall : (H : Type) → List (DataW H) → Bool := fun _ ds => decide (uptoBulkAll ds ≤ 1048576)
def OpenSpec.upto (s : _root_.Go.ChangeSpec) : _root_.Go.OpenSpec := { _root_.Go.OpenSpec.ofChange s with cond := some uptoSmall }

/-- 'laws.FnInverseOne', WHERE WHAT IT READS IS OF BULK AT MOST 1048576: true; the input reads as it did. -/
def fnInverseOneUptoRow : OpenClaim := { program := "ytmbghmjllipbhaa", sum := "fccc7a75d56912096eac4ac938c6e9caaac28fe2e4af37fd3ad93f00f6d66153", func := "loop.example/pub-g03333/laws.FnInverseOne", spec := "fnInverseOne", inPlace := ["math/bits.Sub64", "math/bits.Add64"], apart := false, narrowed := true }
def FnInverseOneUptoSaid : Prop := fnInverseOneUptoRow.holds Try.pinned (OpenSpec.upto fnInverseOneSpec)

/-- 'laws.FnExactGCD', WHERE WHAT IT READS IS OF BULK AT MOST 1048576: true; the input reads as it did. -/
def fnExactGCDUptoRow : OpenClaim := { program := "ytmbghmjllipbhaa", sum := "fccc7a75d56912096eac4ac938c6e9caaac28fe2e4af37fd3ad93f00f6d66153", func := "loop.example/pub-g03333/laws.FnExactGCD", spec := "fnExactGCD", inPlace := ["math/bits.Sub64", "math/bits.Add64"], unfollowed := true, recurses := true, apart := false, narrowed := true }
def FnExactGCDUptoSaid : Prop := fnExactGCDUptoRow.holds Try.pinned (OpenSpec.upto fnExactGCDSpec)

/-- 'laws.FnGCDOrder', WHERE WHAT IT READS IS OF BULK AT MOST 1048576: true; the input reads as it did. -/
def fnGCDOrderUptoRow : OpenClaim := { program := "ytmbghmjllipbhaa", sum := "fccc7a75d56912096eac4ac938c6e9caaac28fe2e4af37fd3ad93f00f6d66153", func := "loop.example/pub-g03333/laws.FnGCDOrder", spec := "fnGCDOrder", inPlace := ["math/bits.Sub64", "math/bits.Add64"], unfollowed := true, recurses := true, apart := false, narrowed := true }
def FnGCDOrderUptoSaid : Prop := fnGCDOrderUptoRow.holds Try.pinned (OpenSpec.upto fnGCDOrderSpec)

/-- 'laws.FnExactModulusSize', WHERE WHAT IT READS IS OF BULK AT MOST 1048576: true; the input reads as it did. -/
def fnExactModulusSizeUptoRow : OpenClaim := { program := "ytmbghmjllipbhaa", sum := "fccc7a75d56912096eac4ac938c6e9caaac28fe2e4af37fd3ad93f00f6d66153", func := "loop.example/pub-g03333/laws.FnExactModulusSize", spec := "fnExactModulusSize", inPlace := ["math/bits.Sub64", "math/bits.Add64"], apart := false, narrowed := true }
def FnExactModulusSizeUptoSaid : Prop := fnExactModulusSizeUptoRow.holds Try.pinned (OpenSpec.upto fnExactModulusSizeSpec)

/-- 'laws.FnExactModulusBytes', WHERE WHAT IT READS IS OF BULK AT MOST 1048576: true; the input reads as it did. -/
def fnExactModulusBytesUptoRow : OpenClaim := { program := "ytmbghmjllipbhaa", sum := "fccc7a75d56912096eac4ac938c6e9caaac28fe2e4af37fd3ad93f00f6d66153", func := "loop.example/pub-g03333/laws.FnExactModulusBytes", spec := "fnExactModulusBytes", inPlace := ["math/bits.Sub64", "math/bits.Add64"], apart := false, narrowed := true }
def FnExactModulusBytesUptoSaid : Prop := fnExactModulusBytesUptoRow.holds Try.pinned (OpenSpec.upto fnExactModulusBytesSpec)

/-- 'laws.FnExactModulusProduct', WHERE WHAT IT READS IS OF BULK AT MOST 1048576: true; the input reads as it did. -/
def fnExactModulusProductUptoRow : OpenClaim := { program := "ytmbghmjllipbhaa", sum := "fccc7a75d56912096eac4ac938c6e9caaac28fe2e4af37fd3ad93f00f6d66153", func := "loop.example/pub-g03333/laws.FnExactModulusProduct", spec := "fnExactModulusProduct", inPlace := ["math/bits.Add64", "math/bits.Sub64"], apart := false, narrowed := true }
def FnExactModulusProductUptoSaid : Prop := fnExactModulusProductUptoRow.holds Try.pinned (OpenSpec.upto fnExactModulusProductSpec)

/-- 'laws.FnExactIsOdd', WHERE WHAT IT READS IS OF BULK AT MOST 1048576: true; the input reads as it did. -/
def fnExactIsOddUptoRow : OpenClaim := { program := "ytmbghmjllipbhaa", sum := "fccc7a75d56912096eac4ac938c6e9caaac28fe2e4af37fd3ad93f00f6d66153", func := "loop.example/pub-g03333/laws.FnExactIsOdd", spec := "fnExactIsOdd", inPlace := ["math/bits.Sub64", "math/bits.Add64"], apart := false, narrowed := true }
def FnExactIsOddUptoSaid : Prop := fnExactIsOddUptoRow.holds Try.pinned (OpenSpec.upto fnExactIsOddSpec)

/-- 'laws.FnExactIsOne', WHERE WHAT IT READS IS OF BULK AT MOST 1048576: true; the input reads as it did. -/
def fnExactIsOneUptoRow : OpenClaim := { program := "ytmbghmjllipbhaa", sum := "fccc7a75d56912096eac4ac938c6e9caaac28fe2e4af37fd3ad93f00f6d66153", func := "loop.example/pub-g03333/laws.FnExactIsOne", spec := "fnExactIsOne", inPlace := ["math/bits.Sub64", "math/bits.Add64"], apart := false, narrowed := true }
def FnExactIsOneUptoSaid : Prop := fnExactIsOneUptoRow.holds Try.pinned (OpenSpec.upto fnExactIsOneSpec)

/-- 'laws.FnExactIsZero', WHERE WHAT IT READS IS OF BULK AT MOST 1048576: true; the input reads as it did. -/
def fnExactIsZeroUptoRow : OpenClaim := { program := "ytmbghmjllipbhaa", sum := "fccc7a75d56912096eac4ac938c6e9caaac28fe2e4af37fd3ad93f00f6d66153", func := "loop.example/pub-g03333/laws.FnExactIsZero", spec := "fnExactIsZero", inPlace := ["math/bits.Sub64", "math/bits.Add64"], apart := false, narrowed := true }
def FnExactIsZeroUptoSaid : Prop := fnExactIsZeroUptoRow.holds Try.pinned (OpenSpec.upto fnExactIsZeroSpec)

/-- 'laws.FnExactSetOverflowing', WHERE WHAT IT READS IS OF BULK AT MOST 1048576: true; the input reads as it did. -/
def fnExactSetOverflowingUptoRow : OpenClaim := { program := "ytmbghmjllipbhaa", sum := "fccc7a75d56912096eac4ac938c6e9caaac28fe2e4af37fd3ad93f00f6d66153", func := "loop.example/pub-g03333/laws.FnExactSetOverflowing", spec := "fnExactSetOverflowing", inPlace := ["math/bits.Sub64", "math/bits.Add64"], apart := false, narrowed := true }
def FnExactSetOverflowingUptoSaid : Prop := fnExactSetOverflowingUptoRow.holds Try.pinned (OpenSpec.upto fnExactSetOverflowingSpec)

/-- 'laws.FnProductOrder', WHERE WHAT IT READS IS OF BULK AT MOST 1048576: true; the input reads as it did. -/
def fnProductOrderUptoRow : OpenClaim := { program := "ytmbghmjllipbhaa", sum := "fccc7a75d56912096eac4ac938c6e9caaac28fe2e4af37fd3ad93f00f6d66153", func := "loop.example/pub-g03333/laws.FnProductOrder", spec := "fnProductOrder", inPlace := ["math/bits.Add64", "math/bits.Sub64"], apart := false, narrowed := true }
def FnProductOrderUptoSaid : Prop := fnProductOrderUptoRow.holds Try.pinned (OpenSpec.upto fnProductOrderSpec)

/-- 'laws.FnExactEqual', WHERE WHAT IT READS IS OF BULK AT MOST 1048576: true; the input reads as it did. -/
def fnExactEqualUptoRow : OpenClaim := { program := "ytmbghmjllipbhaa", sum := "fccc7a75d56912096eac4ac938c6e9caaac28fe2e4af37fd3ad93f00f6d66153", func := "loop.example/pub-g03333/laws.FnExactEqual", spec := "fnExactEqual", inPlace := ["math/bits.Sub64", "math/bits.Add64"], apart := false, narrowed := true }
def FnExactEqualUptoSaid : Prop := fnExactEqualUptoRow.holds Try.pinned (OpenSpec.upto fnExactEqualSpec)

/-- 'laws.FnExactDouble', WHERE WHAT IT READS IS OF BULK AT MOST 1048576: true; the input reads as it did. -/
def fnExactDoubleUptoRow : OpenClaim := { program := "ytmbghmjllipbhaa", sum := "fccc7a75d56912096eac4ac938c6e9caaac28fe2e4af37fd3ad93f00f6d66153", func := "loop.example/pub-g03333/laws.FnExactDouble", spec := "fnExactDouble", inPlace := ["math/bits.Sub64", "math/bits.Add64"], apart := false, narrowed := true }
def FnExactDoubleUptoSaid : Prop := fnExactDoubleUptoRow.holds Try.pinned (OpenSpec.upto fnExactDoubleSpec)

/-- 'laws.FnExactSetBytes', WHERE WHAT IT READS IS OF BULK AT MOST 1048576: true; the input reads as it did. -/
def fnExactSetBytesUptoRow : OpenClaim := { program := "ytmbghmjllipbhaa", sum := "fccc7a75d56912096eac4ac938c6e9caaac28fe2e4af37fd3ad93f00f6d66153", func := "loop.example/pub-g03333/laws.FnExactSetBytes", spec := "fnExactSetBytes", inPlace := ["math/bits.Sub64", "math/bits.Add64"], apart := false, narrowed := true }
def FnExactSetBytesUptoSaid : Prop := fnExactSetBytesUptoRow.holds Try.pinned (OpenSpec.upto fnExactSetBytesSpec)

/-- 'laws.FnExactSub', WHERE WHAT IT READS IS OF BULK AT MOST 1048576: true; the input reads as it did. -/
def fnExactSubUptoRow : OpenClaim := { program := "ytmbghmjllipbhaa", sum := "fccc7a75d56912096eac4ac938c6e9caaac28fe2e4af37fd3ad93f00f6d66153", func := "loop.example/pub-g03333/laws.FnExactSub", spec := "fnExactSub", inPlace := ["math/bits.Sub64", "math/bits.Add64"], apart := false, narrowed := true }
def FnExactSubUptoSaid : Prop := fnExactSubUptoRow.holds Try.pinned (OpenSpec.upto fnExactSubSpec)

/-- 'laws.FnExactMod', WHERE WHAT IT READS IS OF BULK AT MOST 1048576: true; the input reads as it did. -/
def fnExactModUptoRow : OpenClaim := { program := "ytmbghmjllipbhaa", sum := "fccc7a75d56912096eac4ac938c6e9caaac28fe2e4af37fd3ad93f00f6d66153", func := "loop.example/pub-g03333/laws.FnExactMod", spec := "fnExactMod", inPlace := ["math/bits.Sub64", "math/bits.Add64"], apart := false, narrowed := true }
def FnExactModUptoSaid : Prop := fnExactModUptoRow.holds Try.pinned (OpenSpec.upto fnExactModSpec)

/-- 'laws.FnExactExp', WHERE WHAT IT READS IS OF BULK AT MOST 1048576: true; the input reads as it did. -/
def fnExactExpUptoRow : OpenClaim := { program := "ytmbghmjllipbhaa", sum := "fccc7a75d56912096eac4ac938c6e9caaac28fe2e4af37fd3ad93f00f6d66153", func := "loop.example/pub-g03333/laws.FnExactExp", spec := "fnExactExp", inPlace := ["math/bits.Sub64", "math/bits.Add64"], apart := false, narrowed := true }
def FnExactExpUptoSaid : Prop := fnExactExpUptoRow.holds Try.pinned (OpenSpec.upto fnExactExpSpec)

/-- 'laws.FnExactExpShort', WHERE WHAT IT READS IS OF BULK AT MOST 1048576: true; the input reads as it did. -/
def fnExactExpShortUptoRow : OpenClaim := { program := "ytmbghmjllipbhaa", sum := "fccc7a75d56912096eac4ac938c6e9caaac28fe2e4af37fd3ad93f00f6d66153", func := "loop.example/pub-g03333/laws.FnExactExpShort", spec := "fnExactExpShort", inPlace := ["math/bits.Sub64", "math/bits.Add64"], apart := false, narrowed := true }
def FnExactExpShortUptoSaid : Prop := fnExactExpShortUptoRow.holds Try.pinned (OpenSpec.upto fnExactExpShortSpec)

/-- 'laws.FnExactMul', WHERE WHAT IT READS IS OF BULK AT MOST 1048576: true; the input reads as it did. -/
def fnExactMulUptoRow : OpenClaim := { program := "ytmbghmjllipbhaa", sum := "fccc7a75d56912096eac4ac938c6e9caaac28fe2e4af37fd3ad93f00f6d66153", func := "loop.example/pub-g03333/laws.FnExactMul", spec := "fnExactMul", inPlace := ["math/bits.Sub64", "math/bits.Add64"], apart := false, narrowed := true }
def FnExactMulUptoSaid : Prop := fnExactMulUptoRow.holds Try.pinned (OpenSpec.upto fnExactMulSpec)

/-- 'laws.FnExactInverse', WHERE WHAT IT READS IS OF BULK AT MOST 1048576: true; the input reads as it did. -/
def fnExactInverseUptoRow : OpenClaim := { program := "ytmbghmjllipbhaa", sum := "fccc7a75d56912096eac4ac938c6e9caaac28fe2e4af37fd3ad93f00f6d66153", func := "loop.example/pub-g03333/laws.FnExactInverse", spec := "fnExactInverse", inPlace := ["math/bits.Sub64", "math/bits.Add64"], apart := false, narrowed := true }
def FnExactInverseUptoSaid : Prop := fnExactInverseUptoRow.holds Try.pinned (OpenSpec.upto fnExactInverseSpec)

end Rows
end Go.Proofs.Ytmbghmjllipbhaa
