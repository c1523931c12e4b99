/-
  DERIVED. GIVEN WITH THE SEED: THE CARDS: each row of YtgdjhkmofedhpaaDoorRows.lean that lists a variable, with what it lists TIED to the program's text (the seventh form; the later family's looks); each row that meets fmt, with fmt's text TOLD by the authors' own Lean function (tested against real Go, not proved from fmt's source: count such statements apart). THE CARD IS WHAT COUNTS. Prove the row's statement (the work); the ties are given (YtgdjhkmofedhpaaDoorTie.lean); close each card by the builder's one call (the guide's Derived/Test/ToyasCard.lean, 'card_holds'). Laid BY PROGRAM, IN A SANDBOX (cutbox-door.mjs). By AI agents, Wed Nov 11 2026. No macro, syntax, notation, axiom, sorry.
-/
import Derived.Test.YtgdjhkmofedhpaaDoorRows
import GoSem.ClaimSeven
namespace Go.Proofs.YtgdjhkmofedhpaaDoor
namespace Rows

/-- THE TIED CARD OF 'laws.FnExactTrailingZeros'. -/
def fnExactTrailingZerosCard : Claim7 := { stood := { row := fnExactTrailingZerosRow, standIns := [], harness := (true, "2ac419ac02190c0329969710b7c155bcdb739c07a30793bf96e70be320763ed0"), looks := false }, kinds := [], alts := [], laidByText := true, laidKinds := [.data, .data], laidTests := true, laidLooks := .later }
def FnExactTrailingZerosCardSaid : Prop := Claim7.holds Tryd.pinned (.plain (OpenSpec.ofChange fnExactTrailingZerosSpec)) fnExactTrailingZerosCard

/-- THE TIED CARD OF 'laws.FnTrailing'. -/
def fnTrailingCard : Claim7 := { stood := { row := fnTrailingRow, standIns := [], harness := (true, "2ac419ac02190c0329969710b7c155bcdb739c07a30793bf96e70be320763ed0"), looks := false }, kinds := [], alts := [], laidByText := true, laidKinds := [.data, .data], laidTests := true, laidLooks := .later }
def FnTrailingCardSaid : Prop := Claim7.holds Tryd.pinned (.plain (OpenSpec.ofChange fnTrailingSpec)) fnTrailingCard

/-- THE SECOND FORM's CARD OF 'laws.FnExactTrailingZeros'. -/
def fnExactTrailingZerosUptoCard : Claim7 := { stood := { row := fnExactTrailingZerosUptoRow, standIns := [], harness := (true, "2ac419ac02190c0329969710b7c155bcdb739c07a30793bf96e70be320763ed0"), looks := false }, kinds := [], alts := [], laidByText := true, laidKinds := [.data, .data], laidTests := true, laidLooks := .later }
def FnExactTrailingZerosUptoCardSaid : Prop := Claim7.holds Tryd.pinned (.plain (OpenSpec.upto fnExactTrailingZerosSpec)) fnExactTrailingZerosUptoCard

/-- THE SECOND FORM's CARD OF 'laws.FnTrailing'. -/
def fnTrailingUptoCard : Claim7 := { stood := { row := fnTrailingUptoRow, standIns := [], harness := (true, "2ac419ac02190c0329969710b7c155bcdb739c07a30793bf96e70be320763ed0"), looks := false }, kinds := [], alts := [], laidByText := true, laidKinds := [.data, .data], laidTests := true, laidLooks := .later }
def FnTrailingUptoCardSaid : Prop := Claim7.holds Tryd.pinned (.plain (OpenSpec.upto fnTrailingSpec)) fnTrailingUptoCard
end Rows
end Go.Proofs.YtgdjhkmofedhpaaDoor
