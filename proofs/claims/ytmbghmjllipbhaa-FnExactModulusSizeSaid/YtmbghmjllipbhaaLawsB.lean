/-
  The contracts of impl.ShiftRightOne and the law FnExactShiftRightOne.
-/
import Derived.Test.YtmbghmjllipbhaaLawsA
import Derived.Test.YtmbghmjllipbhaaNatC
import Derived.Test.YtmbghmjllipbhaaSpecC
import Derived.Test.YtmbghmjllipbhaaSame
namespace Go.Proofs.Ytmbghmjllipbhaa
open Go.RowKit

/-- The bytes of N, without zeros ahead. -/
abbrev bytesN (N : Nat) : Nat → Nat := fun i => dg 256 N (nb N - 1 - i)
theorem bytesN_lt (N i : Nat) : bytesN N i < 256 := dg_lt (by omega) _ _
theorem be_bytesN (N : Nat) : be (bytesN N) (nb N) = N := be_of_dg (lt_pow_nb N)

end Go.Proofs.Ytmbghmjllipbhaa
