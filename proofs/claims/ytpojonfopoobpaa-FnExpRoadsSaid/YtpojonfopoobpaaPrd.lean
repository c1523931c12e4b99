/-
  Plain laws: a product row by row; a number reduced limb by limb.
-/
import Derived.Test.YtpojonfopoobpaaNumB
namespace Go.Proofs.Ytpojonfopoobpaa

/-- Behind j rows of the product of X and Y. -/
def prN (X Y j : Nat) : Nat := X * (Y % W64 ^ j)
theorem prN_zero (X Y : Nat) : prN X Y 0 = 0 := by simp [prN, Nat.mod_one]
theorem prN_lt {X n : Nat} (Y j : Nat) (hX : X < W64 ^ n) : prN X Y j < W64 ^ (n + j) := by
  unfold prN
  rw [Nat.pow_add]
  exact Nat.mul_lt_mul'' hX (Nat.mod_lt Y (Nat.pow_pos W64_pos))
theorem prN_step (X Y j : Nat) : prN X Y (j + 1) = prN X Y j + X * dg W64 Y j * W64 ^ j := by
  unfold prN
  rw [mod_succ, Nat.mul_add, Nat.mul_comm (W64 ^ j), Nat.mul_assoc]
theorem prN_all {X Y n : Nat} (hY : Y < W64 ^ n) : prN X Y n = X * Y := by unfold prN; rw [Nat.mod_eq_of_lt hY]
theorem prN_div (X Y j : Nat) : prN X Y (j + 1) / W64 ^ j = prN X Y j / W64 ^ j + X * dg W64 Y j := by
  rw [prN_step, Nat.add_mul_div_right _ _ (Nat.pow_pos W64_pos)]
theorem prN_row {X n : Nat} (Y j : Nat) (hX : X < W64 ^ n) : amN (fun i => dg W64 (prN X Y j) (j + i)) (dg W64 X) (dg W64 Y j) n = prN X Y (j + 1) / W64 ^ j := by
  unfold amN
  have h1 : ofD W64 (fun i => dg W64 (prN X Y j) (j + i)) n = prN X Y j / W64 ^ j := by
    have h2 : prN X Y j / W64 ^ j < W64 ^ n := Nat.div_lt_of_lt_mul (by rw [← Nat.pow_add, Nat.add_comm]; exact prN_lt Y j hX)
    rw [ofD_congr (g := dg W64 (prN X Y j / W64 ^ j)) (fun i _ => (dg_div _ _ _ _).symm), ofD_dg_of_lt h2]
  rw [h1, ofD_dg_of_lt hX, prN_div]
theorem prN_dg {X n : Nat} (Y j i : Nat) (hX : X < W64 ^ n) : (if i = n + j then prN X Y (j + 1) / W64 ^ j / W64 ^ n else if j ≤ i ∧ i < j + n then dg W64 (prN X Y (j + 1) / W64 ^ j) (i - j) else dg W64 (prN X Y j) i) = dg W64 (prN X Y (j + 1)) i := by
  have hlt := prN_lt Y (j + 1) hX
  by_cases e : i = n + j
  · subst e
    rw [if_pos rfl, Nat.div_div_eq_div_mul, ← Nat.pow_add, Nat.add_comm j n]
    unfold dg
    rw [Nat.mod_eq_of_lt]
    exact Nat.div_lt_of_lt_mul (by rw [← Nat.pow_succ]; exact hlt)
  · rw [if_neg e]
    by_cases e2 : j ≤ i ∧ i < j + n
    · rw [if_pos e2, dg_div]
      congr 1; omega
    · rw [if_neg e2]
      by_cases e3 : i < j
      · rw [← dg_mod_lt W64_pos e3, ← dg_mod_lt (N := prN X Y (j + 1)) W64_pos e3, prN_step, Nat.add_mul_mod_self_right]
      · rw [dg_of_lt' W64_pos (prN_lt Y j hX) (by omega), dg_of_lt' W64_pos hlt (by omega)]
/-- One limb more of X modulo M. -/
theorem mod_limb (X M j : Nat) : (X / W64 ^ (j + 1) % M * W64 + dg W64 X j) % M = X / W64 ^ j % M := by
  rw [div_split W64_pos X j]
  exact add_mod_congr (mul_mod_congr (Nat.mod_mod _ _) rfl) rfl
/-- What is placed without being shifted. -/
theorem mod_head {X M n k s : Nat} (hX : X < W64 ^ k) (hM : nl M = n) (h0 : 0 < n) (hs : s ≤ n - 1) (hk : s ≤ k) : X / W64 ^ (k - s) % M = X / W64 ^ (k - s) := by
  refine Nat.mod_eq_of_lt ?_
  have h1 : ¬ M < W64 ^ (n - 1) := by rw [← nl_le_iff]; omega
  have h2 : X / W64 ^ (k - s) < W64 ^ s := Nat.div_lt_of_lt_mul (by rw [← Nat.pow_add, show k - s + s = k by omega]; exact hX)
  have h3 : W64 ^ s ≤ W64 ^ (n - 1) := Nat.pow_le_pow_right W64_pos hs
  omega
end Go.Proofs.Ytpojonfopoobpaa
