/-
  Plain laws: doubling modulo M, a limb shifted in, powers by squaring.
-/
import Derived.Test.YtmbghmjllipbhaaNum
namespace Go.Proofs.Ytmbghmjllipbhaa

theorem redN_lt {T M : Nat} (h : T < 2 * M) : redN T M < M := by unfold redN; split <;> omega
theorem dbl_mod {M : Nat} (c e : Nat) (hM : 0 < M) : redN (c * 2 ^ e % M + c * 2 ^ e % M) M = c * 2 ^ (e + 1) % M := by
  have h := Nat.mod_lt (c * 2 ^ e) hM
  rw [redN_mod (by omega), ← Nat.add_mod, Nat.pow_succ]
  congr 1
  grind
theorem top_lt {M : Nat} (ho : M % 2 = 1) (h1 : 1 < M) : 2 ^ (blen M - 1) < M := by
  have h0 : 0 < blen M := blen_pos (by omega)
  have h2 := two_pow_le_of_blen (n := M) (k := blen M - 1) (by omega)
  have h3 : 2 ≤ blen M := by
    refine Nat.le_of_not_lt fun h => ?_
    have := lt_two_pow_blen M
    have h4 : 2 ^ blen M ≤ 2 ^ 1 := Nat.pow_le_pow_right (by omega) (by omega)
    omega
  obtain ⟨k, hk⟩ : ∃ k, blen M - 1 = k + 1 := ⟨blen M - 2, by omega⟩
  rw [hk, Nat.pow_succ] at h2 ⊢
  omega

/-- The carry below digit k of V + V + c. -/
def ccN (V c k : Nat) : Nat := (V % W64 ^ k + V % W64 ^ k + c) / W64 ^ k
theorem ccN_zero (V c : Nat) : ccN V c 0 = c := by simp [ccN, Nat.mod_one]
theorem cc_split (V c k : Nat) : (V % W64 ^ (k + 1) + V % W64 ^ (k + 1) + c) / W64 ^ k = dg W64 V k + dg W64 V k + ccN V c k := by
  have hp : 0 < W64 ^ k := Nat.pow_pos W64_pos
  rw [mod_succ]
  have : V % W64 ^ k + W64 ^ k * dg W64 V k + (V % W64 ^ k + W64 ^ k * dg W64 V k) + c = (V % W64 ^ k + V % W64 ^ k + c) + W64 ^ k * (dg W64 V k + dg W64 V k) := by
    rw [Nat.mul_add]; omega
  rw [this, Nat.add_mul_div_left _ _ hp]
  unfold ccN
  omega
theorem cc_digit (V c k : Nat) : dg W64 (V + V + c) k = sumW (dg W64 V k) (dg W64 V k) (ccN V c k) := by
  have h : dg W64 (V + V + c) k = dg W64 (V % W64 ^ (k + 1) + V % W64 ^ (k + 1) + c) k := by
    rw [← dg_mod_lt W64_pos (Nat.lt_succ_self k), add_mod_congr (add_mod_congr (Nat.mod_mod V _).symm (Nat.mod_mod V _).symm) rfl, dg_mod_lt W64_pos (Nat.lt_succ_self k)]
  rw [h]
  unfold dg sumW
  rw [cc_split]
  rfl
theorem cc_carry (V c k : Nat) : ccN V c (k + 1) = carW (dg W64 V k) (dg W64 V k) (ccN V c k) := by
  unfold carW
  rw [← cc_split, Nat.div_div_eq_div_mul, ← Nat.pow_succ]
  rfl
theorem ccN_le {V c : Nat} (k : Nat) (hc : c ≤ 1) : ccN V c k ≤ 1 := by
  have hp : 0 < W64 ^ k := Nat.pow_pos W64_pos
  have h1 := Nat.mod_lt V hp
  have : ccN V c k < 2 := (Nat.div_lt_iff_lt_mul hp).2 (by omega)
  omega
theorem ccN_all {V c n : Nat} (hV : V < W64 ^ n) : ccN V c n = (V + V + c) / W64 ^ n := by
  unfold ccN; rw [Nat.mod_eq_of_lt hV]
/-- One bit is shifted in. -/
theorem shift_bit {n V c M : Nat} (hV : V < M) (hM : M < W64 ^ n) (hc : c ≤ 1) :
    selN (max (1 - ltN ((V + V + c) % W64 ^ n) M) ((V + V + c) / W64 ^ n)) ((V + V + c) % W64 ^ n) (subN n ((V + V + c) % W64 ^ n) M) = (2 * V + c) % M := by
  have h := msN_eq (n := n) (T := V + V + c) hM (by omega)
  unfold msN at h
  rw [h, redN_mod (by omega)]
  congr 1; omega
/-- Behind j bits of y. -/
theorem bit_step (V y M j : Nat) (hj : j < 64) : (2 * ((V * 2 ^ j + y / 2 ^ (64 - j)) % M) + y / 2 ^ (63 - j) % 2) % M = (V * 2 ^ (j + 1) + y / 2 ^ (64 - (j + 1))) % M := by
  have e1 : y / 2 ^ (63 - j) = 2 * (y / 2 ^ (64 - j)) + y / 2 ^ (63 - j) % 2 := by
    have : y / 2 ^ (64 - j) = y / 2 ^ (63 - j) / 2 := by
      rw [Nat.div_div_eq_div_mul, ← Nat.pow_succ]
      congr 2; omega
    rw [this]; omega
  rw [show 64 - (j + 1) = 63 - j by omega]
  have e2 : V * 2 ^ (j + 1) + y / 2 ^ (63 - j) = 2 * (V * 2 ^ j + y / 2 ^ (64 - j)) + y / 2 ^ (63 - j) % 2 := by
    rw [Nat.pow_succ]
    generalize y / 2 ^ (63 - j) % 2 = t at *
    generalize y / 2 ^ (64 - j) = s at *
    generalize 2 ^ j = q at *
    rw [e1]
    grind
  rw [e2]
  exact add_mod_congr (mul_mod_congr rfl (Nat.mod_mod _ _)) rfl
end Go.Proofs.Ytmbghmjllipbhaa
