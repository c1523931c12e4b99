/-
  Contracts of the functions of math/bits that the package calls: Len64, LeadingZeros64, Add, Sub.
  (The walk of Len64 follows the kit's worked proof of the same function.)
  Contracts: not, ctEq, ctMask, IsZero, IsOne, IsOdd.
  Contracts: ctMask, Equal, cmpGeq.
-/
import Derived.Test.YtgdjhkmofedhpaaDoorNatD
import Derived.Lib.BitFns
import Derived.Laws.Externs
import Derived.Deep.QuietTactic
import Derived.BigQuiet
import Derived.Deep.RegionWith
import Derived.Deep.RegionHeld3
namespace Go.Proofs.YtgdjhkmofedhpaaDoor
open Go.RowKit


/- The sum and the difference of two limbs, and what is carried. -/
def sumW (x y c : Nat) : Nat := (x + y + c) % W64
def carW (x y c : Nat) : Nat := (x + y + c) / W64
def difW (x y b : Nat) : Nat := (x + W64 - y - b) % W64
def borW (x y b : Nat) : Nat := if x < y + b then 1 else 0
theorem sumW_lt (x y c : Nat) : sumW x y c < 18446744073709551616 := Nat.mod_lt _ W64_pos
theorem difW_lt (x y c : Nat) : difW x y c < 18446744073709551616 := Nat.mod_lt _ W64_pos
theorem carW_le {x y c : Nat} (hx : x < 18446744073709551616) (hy : y < 18446744073709551616) (hc : c ≤ 1) : carW x y c ≤ 1 := by
  unfold carW W64; omega
theorem borW_le (x y b : Nat) : borW x y b ≤ 1 := by unfold borW; split <;> omega

end Go.Proofs.YtgdjhkmofedhpaaDoor

namespace Go.Proofs.YtgdjhkmofedhpaaDoor
open Go.RowKit

/-- 1 if two numbers are the same, 0 otherwise. -/
def eqN (x y : Nat) : Nat := if x = y then 1 else 0
theorem eqN_le (x y : Nat) : eqN x y ≤ 1 := by unfold eqN; split <;> omega
def geN (x y : Nat) : Nat := if y ≤ x then 1 else 0
theorem geN_le (x y : Nat) : geN x y ≤ 1 := by unfold geN; split <;> omega

theorem xor_one {c : Nat} (h : c ≤ 1) : bits .xor .u64 1 (c : Int) = ((1 - c : Nat) : Int) := by
  rw [show (1 : Int) = ((1 : Nat) : Int) from rfl, bits_xor]
  have : c = 0 ∨ c = 1 := by omega
  rcases this with rfl | rfl <;> rfl
theorem or_small {c d : Nat} (hc : c ≤ 1) (hd : d ≤ 1) : bits .or .u64 (c : Int) (d : Int) = ((max c d : Nat) : Int) := by
  rw [bits_or]
  have h1 : c = 0 ∨ c = 1 := by omega
  have h2 : d = 0 ∨ d = 1 := by omega
  rcases h1 with rfl | rfl <;> rcases h2 with rfl | rfl <;> rfl
theorem and_small {c d : Nat} (hc : c ≤ 1) (hd : d ≤ 1) : bits .and .u64 (c : Int) (d : Int) = ((c * d : Nat) : Int) := by
  rw [bits_and]
  have h1 : c = 0 ∨ c = 1 := by omega
  have h2 : d = 0 ∨ d = 1 := by omega
  rcases h1 with rfl | rfl <;> rcases h2 with rfl | rfl <;> rfl

theorem eqN_zero_step (X k : Nat) : eqN (X % W64 ^ k) 0 * eqN (dg W64 X k) 0 = eqN (X % W64 ^ (k + 1)) 0 := by
  have h := mod_succ W64 X k
  have hp : 0 < W64 ^ k := Nat.pow_pos W64_pos
  unfold eqN
  by_cases h1 : X % W64 ^ k = 0
  · by_cases h2 : dg W64 X k = 0
    · rw [if_pos h1, if_pos h2, h, h1, h2]; simp
    · rw [if_neg h2, Nat.mul_zero, if_neg]
      rw [h, h1, Nat.zero_add]
      exact Nat.ne_of_gt (Nat.mul_pos hp (by omega))
  · rw [if_neg h1, Nat.zero_mul, if_neg]
    intro h2
    rw [h] at h2
    exact h1 (Nat.eq_zero_of_add_eq_zero h2).1

theorem eqN_one_step (X k : Nat) (hk : 1 ≤ k) : eqN (X % W64 ^ k) 1 * eqN (dg W64 X k) 0 = eqN (X % W64 ^ (k + 1)) 1 := by
  have h := mod_succ W64 X k
  have hp : W64 ≤ W64 ^ k := by
    obtain ⟨j, rfl⟩ : ∃ j, k = j + 1 := ⟨k - 1, by omega⟩
    rw [Nat.pow_succ]
    exact Nat.le_mul_of_pos_left _ (Nat.pow_pos W64_pos)
  have hW : 1 < W64 := by decide
  unfold eqN
  by_cases h2 : dg W64 X k = 0
  · rw [if_pos h2, Nat.mul_one, h, h2, Nat.mul_zero, Nat.add_zero]
  · rw [if_neg h2, Nat.mul_zero, if_neg]
    have h3 : W64 ^ k * 1 ≤ W64 ^ k * dg W64 X k := Nat.mul_le_mul_left _ (by omega)
    intro h4
    rw [h] at h4
    generalize W64 ^ k * dg W64 X k = q at *
    generalize X % W64 ^ k = r at *
    generalize W64 ^ k = u at *
    omega


theorem and_one (d : Nat) : bits .and .u64 (d : Int) 1 = ((d % 2 : Nat) : Int) := by
  rw [show (1 : Int) = ((1 : Nat) : Int) from rfl, bits_and]
  congr 1
  unfold andW
  rw [Nat.and_one_is_mod]
  exact Nat.mod_eq_of_lt (by unfold W64; omega)

end Go.Proofs.YtgdjhkmofedhpaaDoor

namespace Go.Proofs.YtgdjhkmofedhpaaDoor
open Go.RowKit

/-- The carry below digit k of X + Y. -/
def caN (X Y k : Nat) : Nat := (X % W64 ^ k + Y % W64 ^ k) / W64 ^ k
/-- The borrow below digit k of X - Y. -/
def boN (X Y k : Nat) : Nat := if X % W64 ^ k < Y % W64 ^ k then 1 else 0
theorem boN_le (X Y k : Nat) : boN X Y k ≤ 1 := by unfold boN; split <;> omega
theorem caN_le (X Y k : Nat) : caN X Y k ≤ 1 := by
  have hp : 0 < W64 ^ k := Nat.pow_pos W64_pos
  have h1 := Nat.mod_lt X hp
  have h2 := Nat.mod_lt Y hp
  have : caN X Y k < 2 := (Nat.div_lt_iff_lt_mul hp).2 (by omega)
  omega
theorem caN_zero (X Y : Nat) : caN X Y 0 = 0 := by simp [caN, Nat.mod_one]
theorem boN_zero (X Y : Nat) : boN X Y 0 = 0 := by simp [boN, Nat.mod_one]
theorem add_split (X Y k : Nat) : (X % W64 ^ (k + 1) + Y % W64 ^ (k + 1)) / W64 ^ k = dg W64 X k + dg W64 Y k + caN X Y k := by
  have hp : 0 < W64 ^ k := Nat.pow_pos W64_pos
  rw [mod_succ, mod_succ]
  have : X % W64 ^ k + W64 ^ k * dg W64 X k + (Y % W64 ^ k + W64 ^ k * dg W64 Y k) = (X % W64 ^ k + Y % W64 ^ k) + W64 ^ k * (dg W64 X k + dg W64 Y k) := by
    rw [Nat.mul_add]; omega
  rw [this, Nat.add_mul_div_left _ _ hp]
  unfold caN
  omega
theorem add_digit (X Y k : Nat) : dg W64 (X + Y) k = sumW (dg W64 X k) (dg W64 Y k) (caN X Y k) := by
  have h : dg W64 (X + Y) k = dg W64 (X % W64 ^ (k + 1) + Y % W64 ^ (k + 1)) k := by
    rw [← dg_mod_lt W64_pos (Nat.lt_succ_self k), Nat.add_mod, dg_mod_lt W64_pos (Nat.lt_succ_self k)]
  rw [h]
  unfold dg sumW
  rw [add_split]
  rfl
theorem add_carry (X Y k : Nat) : caN X Y (k + 1) = carW (dg W64 X k) (dg W64 Y k) (caN X Y k) := by
  unfold carW
  rw [← add_split, Nat.div_div_eq_div_mul, ← Nat.pow_succ]
  rfl
theorem caN_all {X Y n : Nat} (hX : X < W64 ^ n) (hY : Y < W64 ^ n) : caN X Y n = (X + Y) / W64 ^ n := by
  unfold caN
  rw [Nat.mod_eq_of_lt hX, Nat.mod_eq_of_lt hY]
theorem boN_all {X Y n : Nat} (hX : X < W64 ^ n) (hY : Y < W64 ^ n) : boN X Y n = if X < Y then 1 else 0 := by
  unfold boN
  rw [Nat.mod_eq_of_lt hX, Nat.mod_eq_of_lt hY]
theorem sub_borrow (X Y k : Nat) : boN X Y (k + 1) = borW (dg W64 X k) (dg W64 Y k) (boN X Y k) := by
  have hp : 0 < W64 ^ k := Nat.pow_pos W64_pos
  have h1 := Nat.mod_lt X hp
  have h2 := Nat.mod_lt Y hp
  unfold boN borW
  rw [mod_succ, mod_succ]
  generalize dg W64 X k = a
  generalize dg W64 Y k = d
  generalize X % W64 ^ k = x at *
  generalize Y % W64 ^ k = y at *
  generalize W64 ^ k = u at *
  rcases Nat.lt_trichotomy a d with h | h | h
  · have := Nat.mul_le_mul_left u (show a + 1 ≤ d by omega)
    rw [Nat.mul_add, Nat.mul_one] at this
    rw [if_pos (show x + u * a < y + u * d by omega), if_pos]
    split <;> omega
  · subst h
    by_cases h : x < y
    · rw [if_pos h, if_pos (by omega), if_pos (by omega)]
    · rw [if_neg h, if_neg (by omega), if_neg (by omega)]
  · have := Nat.mul_le_mul_left u (show d + 1 ≤ a by omega)
    rw [Nat.mul_add, Nat.mul_one] at this
    rw [if_neg (show ¬ x + u * a < y + u * d by omega), if_neg]
    split <;> omega
/-- X - Y modulo W64 ^ n. -/
def subN (n X Y : Nat) : Nat := (X + W64 ^ n - Y) % W64 ^ n
theorem subN_lt (n X Y : Nat) : subN n X Y < W64 ^ n := Nat.mod_lt _ (Nat.pow_pos W64_pos)
theorem subN_le {n X Y : Nat} (hX : X < W64 ^ n) (h : Y ≤ X) : subN n X Y = X - Y := by
  unfold subN
  rw [show X + W64 ^ n - Y = (X - Y) + W64 ^ n by omega, Nat.add_mod_right, Nat.mod_eq_of_lt (by omega)]
theorem subN_gt {n X Y : Nat} (hY : Y < W64 ^ n) (h : X < Y) : subN n X Y = X + W64 ^ n - Y := by
  unfold subN
  rw [Nat.mod_eq_of_lt (by omega)]
theorem sub_digit {X Y n k : Nat} (_hX : X < W64 ^ n) (hY : Y < W64 ^ n) (hk : k < n) : dg W64 (subN n X Y) k = difW (dg W64 X k) (dg W64 Y k) (boN X Y k) := by
  unfold subN
  rw [dg_mod_lt W64_pos hk]
  have hp : 0 < W64 ^ k := Nat.pow_pos W64_pos
  obtain ⟨j, rfl⟩ : ∃ j, n = k + (j + 1) := ⟨n - k - 1, by omega⟩
  have hn : W64 ^ (k + (j + 1)) = W64 ^ k * (W64 * W64 ^ j) := by rw [Nat.pow_add, Nat.pow_succ, Nat.mul_comm W64]
  have hq : 0 < W64 ^ j := Nat.pow_pos W64_pos
  rw [hn] at hY ⊢
  have h1 := Nat.mod_lt X hp
  have h2 := Nat.mod_lt Y hp
  have e1 := Nat.div_add_mod X (W64 ^ k)
  have e2 := Nat.div_add_mod Y (W64 ^ k)
  have hY1 : Y / W64 ^ k < W64 * W64 ^ j := (Nat.div_lt_iff_lt_mul hp).2 (by rw [Nat.mul_comm]; exact hY)
  unfold dg difW boN
  generalize W64 ^ j = q at *
  generalize X % W64 ^ k = x at *
  generalize Y % W64 ^ k = y at *
  generalize X / W64 ^ k = X1 at *
  generalize Y / W64 ^ k = Y1 at *
  generalize W64 ^ k = u at *
  have hb : ∀ b : Nat, (b = if x < y then 1 else 0) → (X + u * (W64 * q) - Y) / u = X1 + W64 * q - Y1 - b := by
    intro b hb
    have hd : X + u * (W64 * q) - Y = u * (X1 + W64 * q - Y1) + x - y := by
      rw [Nat.mul_sub, Nat.mul_add]
      have : u * Y1 ≤ u * (W64 * q) := Nat.mul_le_mul_left _ (Nat.le_of_lt hY1)
      omega
    rw [hd]
    obtain ⟨t, ht⟩ : ∃ t, X1 + W64 * q - Y1 = t + 1 := ⟨X1 + W64 * q - Y1 - 1, by omega⟩
    rw [ht]
    by_cases hxy : x < y
    · rw [if_pos hxy] at hb
      subst hb
      rw [Nat.mul_add, Nat.mul_one, Nat.add_sub_cancel]
      rw [show u * t + u + x - y = u * t + (u + x - y) by omega, Nat.mul_add_div hp, Nat.div_eq_of_lt (by omega), Nat.add_zero]
    · rw [if_neg hxy] at hb
      subst hb
      rw [show u * (t + 1) + x - y = u * (t + 1) + (x - y) by omega, Nat.mul_add_div hp, Nat.div_eq_of_lt (by omega), Nat.add_zero]
      rfl
  rw [hb _ rfl]
  have hble : (if x < y then 1 else 0 : Nat) ≤ 1 := by split <;> omega
  generalize (if x < y then 1 else 0 : Nat) = b at *
  have d1 := Nat.div_add_mod X1 W64
  have d2 := Nat.div_add_mod Y1 W64
  have d3 := Nat.mod_lt Y1 W64_pos
  have hY2 : Y1 / W64 < q := (Nat.div_lt_iff_lt_mul W64_pos).2 (by rw [Nat.mul_comm]; exact hY1)
  generalize X1 % W64 = a at *
  generalize Y1 % W64 = d at *
  generalize X1 / W64 = X2 at *
  generalize Y1 / W64 = Y2 at *
  have h3 : W64 * (Y2 + 1) ≤ W64 * q := Nat.mul_le_mul_left _ (by omega)
  have : X1 + W64 * q - Y1 - b = W64 * (X2 + (q - (Y2 + 1))) + (a + W64 - d - b) := by
    rw [Nat.mul_add, Nat.mul_sub]
    rw [Nat.mul_add, Nat.mul_one] at h3 ⊢
    omega
  rw [this, Nat.mul_add_mod]

theorem ge_of_bo {X Y n : Nat} (hX : X < W64 ^ n) (hY : Y < W64 ^ n) : 1 - boN X Y n = geN X Y := by
  rw [boN_all hX hY]
  unfold geN
  by_cases h : X < Y
  · rw [if_pos h, if_neg (by omega)]
  · rw [if_neg h, if_pos (by omega)]

/-- A contract of a callee that draws nothing, in the form that the quiet walk asks. -/
theorem quiet_same {P : Program} {f : FuncId} {args : Array Value} {w : World} {n : Nat} {v : Value}
    (h : Calls P f args (w.drewN n) fun e w' => e = .returned v ∧ w.drewN n = w') : Calls P f args (w.drewN n) fun e w'' => e = .returned v ∧ ∃ m, w'' = w.drewN m :=
  h.mono fun _ _ ⟨he, hm⟩ => ⟨he, n, hm.symm⟩

theorem eqN_step (X Y k : Nat) : eqN (X % W64 ^ k) (Y % W64 ^ k) * eqN (dg W64 X k) (dg W64 Y k) = eqN (X % W64 ^ (k + 1)) (Y % W64 ^ (k + 1)) := by
  have hp : 0 < W64 ^ k := Nat.pow_pos W64_pos
  have h1 := Nat.mod_lt X hp
  have h2 := Nat.mod_lt Y hp
  unfold eqN
  rw [mod_succ, mod_succ]
  generalize dg W64 X k = a
  generalize dg W64 Y k = d
  generalize X % W64 ^ k = x at *
  generalize Y % W64 ^ k = y at *
  generalize W64 ^ k = u at *
  by_cases hxy : x = y
  · subst hxy
    by_cases had : a = d
    · subst had; simp
    · rw [if_neg had, Nat.mul_zero, if_neg]
      intro h
      exact had (Nat.eq_of_mul_eq_mul_left hp (Nat.add_left_cancel h))
  · rw [if_neg hxy, Nat.zero_mul, if_neg]
    intro h
    have h3 := congrArg (· % u) h
    simp only [Nat.add_mul_mod_self_left] at h3
    rw [Nat.mod_eq_of_lt h1, Nat.mod_eq_of_lt h2] at h3
    exact hxy h3

/-- A limb of a number that is read while the limbs of another one, or of itself, are written. -/
theorem NatAt.limbOf {w wr : World} {q by' cy n Y b : Nat} {f : Nat → Nat} (hy : NatAt w q by' cy n Y) (hw : Wrote w wr b n f) {k : Nat} (hk : k < n) (h : by' = b → f k = dg W64 Y k) :
    ∃ d, wr.cell? ⟨by', k, none⟩ = some (.int .u64 (d : Nat)) ∧ d < 18446744073709551616 ∧ Hid (d = dg W64 Y k) := by
  refine ⟨dg W64 Y k, ?_, limb_lt _ _, rfl⟩
  by_cases e : by' = b
  · rw [← h e, e]; exact hw.own.cell k hk
  · exact hw.upd.cell (p := ⟨by', k, none⟩) e (hy.own.cell k hk)


end Go.Proofs.YtgdjhkmofedhpaaDoor
