/-
  Contracts: add, sub, ctMask, assign.
-/
import Derived.Test.YtgdjhkmofedhpaaDoorNatF
import Derived.Deep.DeepCutAuto
import Derived.Deep.CutBlock
namespace Go.Proofs.YtgdjhkmofedhpaaDoor
open Go.RowKit


theorem sum_digit {X Y n k : Nat} (hk : k < n) : dg W64 ((X + Y) % W64 ^ n) k = sumW (dg W64 X k) (dg W64 Y k) (caN X Y k) := by
  rw [dg_mod_lt W64_pos hk, add_digit]

/-- 1 if X is below Y. -/
def ltN (X Y : Nat) : Nat := if X < Y then 1 else 0
theorem ltN_le (X Y : Nat) : ltN X Y ≤ 1 := by unfold ltN; split <;> omega

/-- One of two numbers. -/
def selN (on X Y : Nat) : Nat := if on = 1 then Y else X
theorem selN_one (X Y : Nat) : selN 1 X Y = Y := rfl
theorem selN_zero (X Y : Nat) : selN 0 X Y = X := rfl
theorem selN_lt {on X Y u : Nat} (hX : X < u) (hY : Y < u) : selN on X Y < u := by unfold selN; split <;> assumption
theorem dg_selN (on X Y k : Nat) : dg W64 (selN on X Y) k = selN on (dg W64 X k) (dg W64 Y k) := by unfold selN; split <;> rfl
def maskN (on : Nat) : Nat := if on = 1 then 18446744073709551615 else 0
theorem maskN_lt (on : Nat) : maskN on < 18446744073709551616 := by unfold maskN; split <;> omega
theorem neg_small {c : Nat} (h : c ≤ 1) : IntKind.u64.wrap (-(c : Int)) = ((maskN c : Nat) : Int) := by
  have : c = 0 ∨ c = 1 := by omega
  rcases this with rfl | rfl <;> rfl
theorem mask_sel {on d e : Nat} (hon : on ≤ 1) (hd : d < 18446744073709551616) (he : e < 18446744073709551616) : xorW d (andW (maskN on) (xorW d e)) = selN on d e := by
  have : on = 0 ∨ on = 1 := by omega
  rcases this with rfl | rfl
  · show (d ^^^ ((0 &&& (d ^^^ e) % W64) % W64)) % W64 = d
    rw [Nat.zero_and, Nat.zero_mod, Nat.xor_zero]
    exact Nat.mod_eq_of_lt hd
  · show (d ^^^ ((18446744073709551615 &&& (d ^^^ e) % W64) % W64)) % W64 = e
    have h : d ^^^ e < 2 ^ 64 := Nat.xor_lt_two_pow (by omega) (by omega)
    rw [W64_eq, Nat.mod_eq_of_lt h, Nat.and_comm, show 18446744073709551615 = 2 ^ 64 - 1 from rfl, Nat.and_two_pow_sub_one_eq_mod, Nat.mod_eq_of_lt h, Nat.mod_eq_of_lt h, ← Nat.xor_assoc, Nat.xor_self, Nat.zero_xor]
    exact Nat.mod_eq_of_lt he


end Go.Proofs.YtgdjhkmofedhpaaDoor
