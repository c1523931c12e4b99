/-
  The operations on uint (64 bits) as functions on plain numbers, each behind a name: the walk then leaves them as they stand.
-/
import Derived.Test.YtmbghmjllipbhaaBase
namespace Go.Proofs.Ytmbghmjllipbhaa
open Go.RowKit

def addW (x y : Nat) : Nat := (x + y) % W64
def subW (x y : Nat) : Nat := (x + (W64 - y % W64)) % W64
def mulW (x y : Nat) : Nat := (x * y) % W64
def andW (x y : Nat) : Nat := (x &&& y) % W64
def orW (x y : Nat) : Nat := (x ||| y) % W64
def xorW (x y : Nat) : Nat := (x ^^^ y) % W64
def shlW (x s : Nat) : Nat := x * 2 ^ s % W64
def shrW (x s : Nat) : Nat := x / 2 ^ s
theorem addW_lt (x y : Nat) : addW x y < 18446744073709551616 := Nat.mod_lt _ W64_pos
theorem subW_lt (x y : Nat) : subW x y < 18446744073709551616 := Nat.mod_lt _ W64_pos
theorem mulW_lt (x y : Nat) : mulW x y < 18446744073709551616 := Nat.mod_lt _ W64_pos
theorem andW_lt (x y : Nat) : andW x y < 18446744073709551616 := Nat.mod_lt _ W64_pos
theorem orW_lt (x y : Nat) : orW x y < 18446744073709551616 := Nat.mod_lt _ W64_pos
theorem xorW_lt (x y : Nat) : xorW x y < 18446744073709551616 := Nat.mod_lt _ W64_pos
theorem shlW_lt (x y : Nat) : shlW x y < 18446744073709551616 := Nat.mod_lt _ W64_pos
theorem shrW_lt {x : Nat} (y : Nat) (h : x < 18446744073709551616) : shrW x y < 18446744073709551616 := Nat.lt_of_le_of_lt (Nat.div_le_self _ _) h

section
variable {P : Program} (t : TypeId)
theorem run_addW (x y : Nat) (w : World) : (binOp .add t (.int .u64 x) (.int .u64 y)).run P w = .ok (.int .u64 (addW x y)) w := by
  simp [binOp, Op.intArith, IntKind.wrap_u64, addW, W64]
theorem run_mulW (x y : Nat) (w : World) : (binOp .mul t (.int .u64 x) (.int .u64 y)).run P w = .ok (.int .u64 (mulW x y)) w := by
  simp [binOp, Op.intArith, IntKind.wrap_u64, mulW, W64]
theorem run_subW (x y : Nat) (w : World) : (binOp .sub t (.int .u64 x) (.int .u64 y)).run P w = .ok (.int .u64 (subW x y)) w := by
  have h : ((x : Int) - (y : Int)) % 18446744073709551616 = ((subW x y : Nat) : Int) := by
    simp only [subW, W64]; omega
  simp [binOp, Op.intArith, IntKind.wrap_u64, h]
theorem bv64 (x : Nat) : (BitVec.ofInt 64 (x : Int)).toNat = x % W64 := by
  rw [BitVec.ofInt_natCast, BitVec.toNat_ofNat]; rfl
theorem and_mod64 (x y : Nat) : (x % W64 &&& y % W64) = (x &&& y) % W64 := by
  rw [W64_eq, Nat.and_mod_two_pow]
theorem run_andW (x y : Nat) (w : World) : (binOp .and t (.int .u64 x) (.int .u64 y)).run P w = .ok (.int .u64 (andW x y)) w := by
  have h : (BitVec.ofInt 64 (x : Int) &&& BitVec.ofInt 64 (y : Int)).toNat = andW x y := by
    rw [BitVec.toNat_and, bv64, bv64, and_mod64]; rfl
  have h2 := andW_lt x y
  simp only [binOp, Op.intBits, ne_eq, not_true_eq_false, if_false]
  rw [show IntKind.u64.bits = 64 from rfl]
  simp only [h, IntKind.wrap_u64]
  rw [Int.emod_eq_of_lt (by omega) (by omega)]
  rfl
theorem run_orW (x y : Nat) (w : World) : (binOp .or t (.int .u64 x) (.int .u64 y)).run P w = .ok (.int .u64 (orW x y)) w := by
  have h : (BitVec.ofInt 64 (x : Int) ||| BitVec.ofInt 64 (y : Int)).toNat = orW x y := by
    rw [BitVec.toNat_or, bv64, bv64]
    show _ = (x ||| y) % W64
    rw [W64_eq, Nat.or_mod_two_pow]
  have h2 := orW_lt x y
  simp only [binOp, Op.intBits, ne_eq, not_true_eq_false, if_false]
  rw [show IntKind.u64.bits = 64 from rfl]
  simp only [h, IntKind.wrap_u64]
  rw [Int.emod_eq_of_lt (by omega) (by omega)]
  rfl
theorem run_xorW (x y : Nat) (w : World) : (binOp .xor t (.int .u64 x) (.int .u64 y)).run P w = .ok (.int .u64 (xorW x y)) w := by
  have h : (BitVec.ofInt 64 (x : Int) ^^^ BitVec.ofInt 64 (y : Int)).toNat = xorW x y := by
    rw [BitVec.toNat_xor, bv64, bv64]
    show _ = (x ^^^ y) % W64
    rw [W64_eq, Nat.xor_mod_two_pow]
  have h2 := xorW_lt x y
  simp only [binOp, Op.intBits, ne_eq, not_true_eq_false, if_false]
  rw [show IntKind.u64.bits = 64 from rfl]
  simp only [h, IntKind.wrap_u64]
  rw [Int.emod_eq_of_lt (by omega) (by omega)]
  rfl
theorem run_shlW (x s : Nat) (k : IntKind) (w : World) : (binOp .shl t (.int .u64 x) (.int k s)).run P w = .ok (.int .u64 (shlW x s)) w := by
  have h : ((x : Int) * 2 ^ min s 64) % 18446744073709551616 = ((shlW x s : Nat) : Int) := by
    have e : x * 2 ^ min s 64 % 18446744073709551616 = shlW x s := by
      unfold shlW
      rcases Nat.le_total s 64 with h | h
      · rw [Nat.min_eq_left h]; rfl
      · rw [Nat.min_eq_right h, show s = 64 + (s - 64) by omega, Nat.pow_add, ← Nat.mul_assoc, Nat.mul_right_comm]
        rw [show (2 : Nat) ^ 64 = W64 from rfl]
        rw [show (18446744073709551616 : Nat) = W64 from rfl]
        rw [Nat.mul_mod_left, Nat.mul_mod_left]
    rw [← e]; simp
  simp only [binOp, Op.shift]
  rw [if_neg (by omega), show IntKind.u64.bits = 64 from rfl, Int.toNat_natCast, IntKind.wrap_u64, h]
  rfl
theorem run_shrW (x s : Nat) (hx : x < 18446744073709551616) (k : IntKind) (w : World) : (binOp .shr t (.int .u64 x) (.int k s)).run P w = .ok (.int .u64 (shrW x s)) w := by
  have h : (x : Int).fdiv (2 ^ min s 64) = ((shrW x s : Nat) : Int) := by
    have e : x / 2 ^ min s 64 = shrW x s := by
      unfold shrW
      rcases Nat.le_total s 64 with h | h
      · rw [Nat.min_eq_left h]
      · rw [Nat.min_eq_right h, Nat.div_eq_of_lt (by exact hx), Nat.div_eq_of_lt]
        have h2 : (2 : Nat) ^ 64 ≤ 2 ^ s := Nat.pow_le_pow_right (by omega) h
        exact Nat.lt_of_lt_of_le hx h2
    rw [← e, Int.fdiv_eq_ediv_of_nonneg _ (Int.pow_nonneg (by omega))]; simp
  simp only [binOp, Op.shift]
  rw [if_neg (by omega), show IntKind.u64.bits = 64 from rfl, Int.toNat_natCast, h]
  rfl
end
/- The same, as the walk itself spells them. -/
theorem bits_and (x y : Nat) : bits .and .u64 (x : Int) (y : Int) = ((andW x y : Nat) : Int) := by
  have h : (BitVec.ofInt 64 (x : Int) &&& BitVec.ofInt 64 (y : Int)).toNat = andW x y := by
    rw [BitVec.toNat_and, bv64, bv64, and_mod64]; rfl
  have h2 := andW_lt x y
  show IntKind.u64.wrap ((BitVec.ofInt 64 (x : Int) &&& BitVec.ofInt 64 (y : Int)).toNat : Int) = _
  rw [h, IntWalk.u64_in _ (by omega)]
theorem bits_or (x y : Nat) : bits .or .u64 (x : Int) (y : Int) = ((orW x y : Nat) : Int) := by
  have h : (BitVec.ofInt 64 (x : Int) ||| BitVec.ofInt 64 (y : Int)).toNat = orW x y := by
    rw [BitVec.toNat_or, bv64, bv64]
    show _ = (x ||| y) % W64
    rw [W64_eq, Nat.or_mod_two_pow]
  have h2 := orW_lt x y
  show IntKind.u64.wrap ((BitVec.ofInt 64 (x : Int) ||| BitVec.ofInt 64 (y : Int)).toNat : Int) = _
  rw [h, IntWalk.u64_in _ (by omega)]
theorem bits_xor (x y : Nat) : bits .xor .u64 (x : Int) (y : Int) = ((xorW x y : Nat) : Int) := by
  have h : (BitVec.ofInt 64 (x : Int) ^^^ BitVec.ofInt 64 (y : Int)).toNat = xorW x y := by
    rw [BitVec.toNat_xor, bv64, bv64]
    show _ = (x ^^^ y) % W64
    rw [W64_eq, Nat.xor_mod_two_pow]
  have h2 := xorW_lt x y
  show IntKind.u64.wrap ((BitVec.ofInt 64 (x : Int) ^^^ BitVec.ofInt 64 (y : Int)).toNat : Int) = _
  rw [h, IntWalk.u64_in _ (by omega)]
theorem wrap_shl (x s : Nat) : IntKind.u64.wrap ((x : Int) * 2 ^ s) = ((shlW x s : Nat) : Int) := by
  rw [IntKind.wrap_u64]; unfold shlW W64; simp
theorem wrap_add (x y : Nat) : IntKind.u64.wrap ((x : Int) + (y : Int)) = ((addW x y : Nat) : Int) := by
  rw [IntKind.wrap_u64]; unfold addW W64; simp
theorem wrap_mul (x y : Nat) : IntKind.u64.wrap ((x : Int) * (y : Int)) = ((mulW x y : Nat) : Int) := by
  rw [IntKind.wrap_u64]; unfold mulW W64; simp
theorem wrap_sub (x y : Nat) : IntKind.u64.wrap ((x : Int) - (y : Int)) = ((subW x y : Nat) : Int) := by
  rw [IntKind.wrap_u64]; unfold subW W64; omega
theorem powW (n : Nat) : W64 ^ n = 2 ^ (64 * n) := by rw [W64_eq, ← Nat.pow_mul]
/-- The number of bits by the highest limb. -/
theorem blen_topW {X j : Nat} (h : X < W64 ^ (j + 1)) (ht : dg W64 X j ≠ 0) : blen X = 64 * j + blen (dg W64 X j) := by
  have := mod_succ W64 X j
  rw [Nat.mod_eq_of_lt h] at this
  have hm := Nat.mod_lt X (show 0 < W64 ^ j from Nat.pow_pos W64_pos)
  have e : X = dg W64 X j * 2 ^ (64 * j) + X % W64 ^ j := by rw [← powW, Nat.mul_comm]; omega
  have h2 := blen_add_lt (c := X % W64 ^ j) (k := 64 * j) ht (by rw [← powW]; exact hm)
  rw [← e] at h2
  omega
theorem lt_of_no_topW {X j : Nat} (h : X < W64 ^ (j + 1)) (ht : dg W64 X j = 0) : X < W64 ^ j := by
  have := mod_succ W64 X j
  rw [Nat.mod_eq_of_lt h, ht, Nat.mul_zero, Nat.add_zero] at this
  have := Nat.mod_lt X (show 0 < W64 ^ j from Nat.pow_pos W64_pos)
  omega
theorem dg_half (Z k : Nat) : dg W64 (Z / 2) k = dg W64 Z k / 2 + dg W64 Z (k + 1) % 2 * 9223372036854775808 := by
  unfold dg
  have e1 : Z / 2 / W64 ^ k = Z / W64 ^ k / 2 := by rw [Nat.div_div_eq_div_mul, Nat.div_div_eq_div_mul, Nat.mul_comm]
  have e2 : Z / W64 ^ (k + 1) = Z / W64 ^ k / W64 := by rw [Nat.pow_succ, Nat.div_div_eq_div_mul]
  rw [e1, e2]
  generalize Z / W64 ^ k = z
  unfold W64
  omega
theorem dg_carry {X n j : Nat} (cy : Nat) (hX : X < W64 ^ n) (hcy : cy ≤ 1) : dg W64 (X + cy * W64 ^ n) j = if j < n then dg W64 X j else if j = n then cy else 0 := by
  have hp : 0 < W64 ^ n := Nat.pow_pos W64_pos
  by_cases h : j < n
  · rw [if_pos h, ← dg_mod_lt W64_pos h, Nat.add_mul_mod_self_right, Nat.mod_eq_of_lt hX]
  · rw [if_neg h]
    by_cases e : j = n
    · subst e
      rw [if_pos rfl]
      unfold dg
      rw [Nat.add_mul_div_right _ _ hp, Nat.div_eq_of_lt hX, Nat.zero_add]
      exact Nat.mod_eq_of_lt (by unfold W64; omega)
    · rw [if_neg e]
      refine dg_of_lt' W64_pos (n := n + 1) ?_ (by omega)
      rw [Nat.pow_succ]
      have h1 : cy * W64 ^ n ≤ 1 * W64 ^ n := Nat.mul_le_mul_right _ hcy
      have h2 : W64 ^ n * 2 ≤ W64 ^ n * W64 := Nat.mul_le_mul_left _ (by unfold W64; omega)
      omega
/-- A limb shifted by one bit, the bit from above laid in by 'or'. -/
theorem or_half (d d' : Nat) (hd : d < 18446744073709551616) : bits .or .u64 ((d : Int) / 2) (IntKind.u64.wrap ((d' : Int) * 9223372036854775808)) = ((d / 2 + d' % 2 * 9223372036854775808 : Nat) : Int) := by
  have e1 : ((d : Int) / 2) = ((d / 2 : Nat) : Int) := by omega
  have e2 : IntKind.u64.wrap ((d' : Int) * 9223372036854775808) = ((d' % 2 * 9223372036854775808 : Nat) : Int) := by
    rw [IntKind.wrap_u64]; omega
  rw [e1, e2, bits_or]
  congr 1
  unfold orW
  have h := or_shift (x := d / 2) (d := d' % 2) (s := 63) (by omega)
  rw [Nat.shiftLeft_eq] at h
  rw [show (9223372036854775808 : Nat) = 2 ^ 63 from rfl, h]
  exact Nat.mod_eq_of_lt (by unfold W64; omega)
theorem dg_shift (X L s k : Nat) (hs : s < 64) : dg W64 (X / 2 ^ (64 * L + s)) k = dg W64 X (L + k) / 2 ^ s + dg W64 X (L + (k + 1)) % 2 ^ s * 2 ^ (64 - s) := by
  unfold dg
  have e1 : X / 2 ^ (64 * L + s) / W64 ^ k = X / W64 ^ (L + k) / 2 ^ s := by
    rw [Nat.div_div_eq_div_mul, Nat.div_div_eq_div_mul, Nat.pow_add 2, ← powW, Nat.pow_add W64, Nat.mul_right_comm]
  have e2 : X / W64 ^ (L + (k + 1)) = X / W64 ^ (L + k) / W64 := by rw [← Nat.add_assoc, Nat.pow_succ, Nat.div_div_eq_div_mul]
  rw [e1, e2]
  generalize X / W64 ^ (L + k) = z
  have hW : W64 = 2 ^ s * 2 ^ (64 - s) := by rw [← Nat.pow_add, show s + (64 - s) = 64 by omega]; rfl
  have hp1 : 0 < 2 ^ s := Nat.pow_pos (by omega)
  have hp2 : 0 < 2 ^ (64 - s) := Nat.pow_pos (by omega)
  have hle : 2 ^ s ≤ W64 := by rw [hW]; exact Nat.le_mul_of_pos_right _ hp2
  rw [Nat.mod_mod_of_dvd (z / W64) (show 2 ^ s ∣ W64 from ⟨2 ^ (64 - s), hW⟩)]
  generalize 2 ^ s = A at *
  generalize 2 ^ (64 - s) = B at *
  rw [hW, Nat.mod_mul_right_div_self]
  have h1 : z / A % (A * B) = z / A % (B * A) := by rw [Nat.mul_comm]
  rw [h1, Nat.mod_mul, Nat.div_div_eq_div_mul, Nat.mul_comm B]
theorem or_shr (d d' s : Nat) (hd : d < 18446744073709551616) (hs : s < 64) : bits .or .u64 ((d : Int) / 2 ^ s) (IntKind.u64.wrap ((d' : Int) * 2 ^ (64 - s))) = ((d / 2 ^ s + d' % 2 ^ s * 2 ^ (64 - s) : Nat) : Int) := by
  have hp1 : 0 < 2 ^ s := Nat.pow_pos (by omega)
  have hW : (18446744073709551616 : Nat) = 2 ^ s * 2 ^ (64 - s) := by rw [← Nat.pow_add, show s + (64 - s) = 64 by omega]
  have e1 : ((d : Int) / 2 ^ s) = ((d / 2 ^ s : Nat) : Int) := by simp
  have e2 : IntKind.u64.wrap ((d' : Int) * 2 ^ (64 - s)) = ((d' % 2 ^ s * 2 ^ (64 - s) : Nat) : Int) := by
    rw [wrap_shl]
    congr 1
    unfold shlW
    rw [show W64 = 2 ^ s * 2 ^ (64 - s) from hW, Nat.mul_mod_mul_right]
  rw [e1, e2, bits_or]
  congr 1
  unfold orW
  have h1 : d / 2 ^ s < 2 ^ (64 - s) := by
    rw [Nat.div_lt_iff_lt_mul hp1, Nat.mul_comm, ← hW]; exact hd
  have h := or_shift (x := d / 2 ^ s) (d := d' % 2 ^ s) (s := 64 - s) h1
  rw [Nat.shiftLeft_eq] at h
  rw [h]
  refine Nat.mod_eq_of_lt ?_
  have h2 : d' % 2 ^ s < 2 ^ s := Nat.mod_lt _ hp1
  have h3 : (d' % 2 ^ s + 1) * 2 ^ (64 - s) ≤ 2 ^ s * 2 ^ (64 - s) := Nat.mul_le_mul_right _ h2
  rw [← hW, Nat.add_mul, Nat.one_mul] at h3
  show _ < 18446744073709551616
  omega
/-- A byte laid into its limb by 'or'. -/
theorem word_next (N k j : Nat) : (if j = k / 8 then orW (dg W64 (N % 256 ^ k) (k / 8)) (shlW (dg 256 N k) (8 * (k % 8))) else dg W64 (N % 256 ^ k) j) = dg W64 (N % 256 ^ (k + 1)) j := by
  have h2 : dg W64 (N % 256 ^ (k + 1)) j = _ := limb_next_byte N k j
  rw [h2]
  by_cases e : j = k / 8
  · subst e
    rw [if_pos rfl, if_pos rfl]
    have h6 := limb_lt (N % 256 ^ (k + 1)) (k / 8)
    rw [h2, if_pos rfl] at h6
    have h3 : dg W64 (N % 256 ^ k) (k / 8) < 2 ^ (8 * (k % 8)) := limb_low N k
    have h4 := or_shift (d := dg 256 N k) h3
    show orW (dg W64 (N % 256 ^ k) (k / 8)) _ = dg W64 (N % 256 ^ k) (k / 8) + _
    have h7 : dg W64 (N % 256 ^ k) (k / 8) + dg 256 N k * 2 ^ (8 * (k % 8)) < W64 := h6
    unfold orW shlW
    rw [Nat.mod_eq_of_lt (a := dg 256 N k * 2 ^ (8 * (k % 8))) (by omega), ← Nat.shiftLeft_eq, h4, Nat.mod_eq_of_lt h7, Nat.shiftLeft_eq]
  · rw [if_neg e, if_neg e]; rfl
end Go.Proofs.Ytmbghmjllipbhaa
