/-
  Contracts of the reference: same, Equal, IsZero, IsOne, IsOdd, ModulusBytes, SetOverflowing.
-/
import Derived.Test.YtpojonfopoobpaaSpecI
import Derived.Test.YtpojonfopoobpaaNatF
namespace Go.Proofs.Ytpojonfopoobpaa
open Go.RowKit

/-- A number where c holds. -/
def optI (c : Prop) [Decidable c] (N : Nat) : Option Nat := if c then some N else none
theorem optI_yes {c : Prop} [Decidable c] (h : c) (N : Nat) : optI c N = some N := if_pos h
theorem optI_no {c : Prop} [Decidable c] (h : ¬ c) (N : Nat) : optI c N = none := if_neg h

end Go.Proofs.Ytpojonfopoobpaa
