/-
  Plain laws of numbers modulo M: what multiplies away, powers, inverses.
  Plain laws: doubling modulo M, a limb shifted in, powers by squaring.
-/
import Derived.Test.YtpojonfopoobpaaCopy
namespace Go.Proofs.Ytpojonfopoobpaa

theorem mul_mod_congr {M a b c d : Nat} (h1 : a % M = b % M) (h2 : c % M = d % M) : a * c % M = b * d % M := by
  rw [Nat.mul_mod, h1, h2, ← Nat.mul_mod]
theorem add_mod_congr {M a b c d : Nat} (h1 : a % M = b % M) (h2 : c % M = d % M) : (a + c) % M = (b + d) % M := by
  rw [Nat.add_mod, h1, h2, ← Nat.add_mod]
theorem pow_mod_congr {M a b : Nat} (h : a % M = b % M) (n : Nat) : a ^ n % M = b ^ n % M := by
  rw [Nat.pow_mod, h, ← Nat.pow_mod]
theorem add_cancel_mod {m a b c : Nat} (hm : 0 < m) (h : (a + c) % m = (b + c) % m) : a % m = b % m := by
  have e : ∀ z, z % m = ((z + c) + (m - c % m)) % m := fun z => by
    have h1 := Nat.div_add_mod c m
    have h2 := Nat.mod_lt c hm
    rw [show z + c + (m - c % m) = z + m * (c / m + 1) by rw [Nat.mul_add, Nat.mul_one]; omega, Nat.add_mul_mod_self_left]
  rw [e a, e b]
  exact add_mod_congr h rfl
/-- r undoes R modulo M. -/
theorem cancel_mod {R r M x y : Nat} (hr : R * r % M = 1 % M) (h : x * R % M = y * R % M) : x % M = y % M := by
  have e : ∀ z, z % M = z * R * r % M := fun z => by
    rw [Nat.mul_assoc, Nat.mul_mod, hr, ← Nat.mul_mod, Nat.mul_one]
  rw [e x, e y]
  exact mul_mod_congr h rfl
/-- A power of 2 has an inverse modulo an odd number. -/
theorem two_pow_inv {M : Nat} (hM : M % 2 = 1) (k : Nat) : 2 ^ k * ((M + 1) / 2) ^ k % M = 1 % M := by
  rw [← Nat.mul_pow, show 2 * ((M + 1) / 2) = 1 + M by omega]
  have h : (1 + M) % M = 1 % M := Nat.add_mod_right 1 M
  rw [Nat.pow_mod, h, ← Nat.pow_mod, Nat.one_pow]
theorem R_inv {M : Nat} (hM : M % 2 = 1) (n : Nat) : ∃ r, W64 ^ n * r % M = 1 % M := by
  refine ⟨((M + 1) / 2) ^ (64 * n), ?_⟩
  have e : W64 ^ n = 2 ^ (64 * n) := by rw [Nat.pow_mul]; rfl
  rw [e]
  exact two_pow_inv hM _
/-- The Montgomery multiplication of numbers that stand for a and b. -/
theorem mmN_mont {n k A B M a b : Nat} (hk : (k * M + 1) % W64 = 0) (ho : M % 2 = 1) (hA : A < M) (hB : B < W64 ^ n) (h1 : A % M = a * W64 ^ n % M) (h2 : B % M = b * W64 ^ n % M) : mmN n k A B M = a * b * W64 ^ n % M := by
  obtain ⟨h3, h4⟩ := mmN_spec (n := n) hk hA hB
  obtain ⟨r, hr⟩ := R_inv ho n
  have h5 : mmN n k A B M % M = a * b * W64 ^ n % M := by
    refine cancel_mod hr ?_
    rw [h4, mul_mod_congr h1 h2]
    congr 1
    grind
  rw [← h5, Nat.mod_eq_of_lt h3]
/-- A number that stands for a, times one that stands for itself. -/
theorem mmN_plain {n k A B M a b : Nat} (hk : (k * M + 1) % W64 = 0) (ho : M % 2 = 1) (hA : A < M) (hB : B < W64 ^ n) (h1 : A % M = a * W64 ^ n % M) (h2 : B % M = b % M) : mmN n k A B M = a * b % M := by
  obtain ⟨h3, h4⟩ := mmN_spec (n := n) hk hA hB
  obtain ⟨r, hr⟩ := R_inv ho n
  have h5 : mmN n k A B M % M = a * b % M := by
    refine cancel_mod hr ?_
    rw [h4, mul_mod_congr h1 h2]
    congr 1
    grind
  rw [← h5, Nat.mod_eq_of_lt h3]
/-- A number into the Montgomery form. -/
theorem mmN_in {n k X M : Nat} (hk : (k * M + 1) % W64 = 0) (ho : M % 2 = 1) (hX : X < M) (hM : M ≤ W64 ^ n) : mmN n k X (W64 ^ n * W64 ^ n % M) M = X * W64 ^ n % M := by
  have hp : 0 < M := by omega
  have hB : W64 ^ n * W64 ^ n % M < W64 ^ n := Nat.lt_of_lt_of_le (Nat.mod_lt _ hp) hM
  obtain ⟨h3, h4⟩ := mmN_spec (n := n) (A := X) hk hX hB
  obtain ⟨r, hr⟩ := R_inv ho n
  have h5 : mmN n k X (W64 ^ n * W64 ^ n % M) M % M = X * W64 ^ n % M := by
    refine cancel_mod hr ?_
    rw [h4, Nat.mul_mod, Nat.mod_mod, ← Nat.mul_mod, Nat.mul_assoc]
  rw [← h5, Nat.mod_eq_of_lt h3]
/-- A number out of the Montgomery form. -/
theorem mmN_out {n k A M a : Nat} (hk : (k * M + 1) % W64 = 0) (ho : M % 2 = 1) (hA : A < M) (hn : 1 < W64 ^ n) (h1 : A % M = a * W64 ^ n % M) : mmN n k A 1 M = a % M := by
  have := mmN_plain (b := 1) hk ho hA hn h1 rfl
  rwa [Nat.mul_one] at this

/-- X is the inverse of a modulo m. -/
structure IsInv (a m X : Nat) : Prop where
  lt : X < m
  eq : X * a % m = 1 % m
theorem IsInv.unique {a m X Y : Nat} (h : IsInv a m X) (k : IsInv a m Y) : X = Y := by
  have h1 : X % m = Y % m := by
    have e1 : X * (Y * a) % m = X % m := by rw [Nat.mul_mod, k.eq, ← Nat.mul_mod, Nat.mul_one]
    have e2 : Y * (X * a) % m = Y % m := by rw [Nat.mul_mod, h.eq, ← Nat.mul_mod, Nat.mul_one]
    rw [← e1, ← e2]
    congr 1
    grind
  rwa [Nat.mod_eq_of_lt h.lt, Nat.mod_eq_of_lt k.lt] at h1
theorem IsInv.gcd {a m X : Nat} (h : IsInv a m X) (hm : 1 < m) : Nat.gcd a m = 1 := by
  have h1 : Nat.gcd a m ∣ X * a % m := (Nat.dvd_mod_iff (Nat.gcd_dvd_right a m)).2 (Nat.dvd_trans (Nat.gcd_dvd_left a m) (Nat.dvd_mul_left _ _))
  rw [h.eq, Nat.mod_eq_of_lt hm] at h1
  exact Nat.dvd_one.1 h1

/-- What holds at the head of the reference's loop for the inverse. -/
structure EuI (a m r s x y : Nat) : Prop where
  g : Nat.gcd r s = Nat.gcd a m
  ex : x * a % m = r % m
  ey : y * a % m = s % m
  hx : x < m
  hy : y < m
  hr : 0 < r
  lr : r ≤ m
  ls : s < m
theorem EuI.start {a m : Nat} (hm : 1 < m) (ha : a < m) : EuI a m m a 0 1 :=
  ⟨Nat.gcd_comm m a, by simp, by simp, by omega, by omega, by omega, Nat.le_refl _, ha⟩
theorem EuI.next {a m r s x y : Nat} (h : EuI a m r s x y) (hs : 0 < s) : EuI a m s (r % s) y ((x + m - r / s * y % m) % m) where
  g := by rw [← h.g, Nat.gcd_comm s (r % s), Nat.gcd_comm r s]; exact (Nat.gcd_rec s r).symm
  ex := h.ey
  ey := by
    have hm : 0 < m := by have := h.hx; omega
    have hb := Nat.mod_lt (r / s * y) hm
    have e1 : ((x + m - r / s * y % m) + r / s * y) % m = x % m := by
      have e0 : ((x + m - r / s * y % m) + r / s * y) = x + m * (1 + r / s * y / m) := by
        have := Nat.div_add_mod (r / s * y) m
        rw [Nat.mul_add, Nat.mul_one]; omega
      rw [e0, Nat.add_mul_mod_self_left]
    have e2 : ((x + m - r / s * y % m) % m * a + r / s * s) % m = (r % s + r / s * s) % m := by
      have e3 : ((x + m - r / s * y % m) % m * a + r / s * s) % m = ((x + m - r / s * y % m) * a + r / s * (y * a)) % m := by
        refine add_mod_congr ?_ (mul_mod_congr rfl h.ey.symm)
        exact mul_mod_congr (Nat.mod_mod _ _) rfl
      rw [e3, ← Nat.mul_assoc, ← Nat.add_mul, mul_mod_congr e1 rfl, h.ex]
      congr 1
      have := Nat.div_add_mod r s
      rw [Nat.mul_comm] at this
      omega
    exact add_cancel_mod hm e2
  hx := h.hy
  hy := Nat.mod_lt _ (by have := h.hx; omega)
  hr := hs
  lr := Nat.le_of_lt h.ls
  ls := Nat.lt_trans (Nat.mod_lt _ hs) h.ls
theorem EuI.done {a m r x y : Nat} (h : EuI a m r 0 x y) : r = Nat.gcd a m ∧ (r = 1 → IsInv a m x) := by
  refine ⟨by have := h.g; rwa [Nat.gcd_zero_right] at this, fun e => ⟨h.hx, by rw [h.ex, e]⟩⟩
end Go.Proofs.Ytpojonfopoobpaa

namespace Go.Proofs.Ytpojonfopoobpaa

theorem redN_lt {T M : Nat} (h : T < 2 * M) : redN T M < M := by unfold redN; split <;> omega
theorem dbl_mod {M : Nat} (c e : Nat) (hM : 0 < M) : redN (c * 2 ^ e % M + c * 2 ^ e % M) M = c * 2 ^ (e + 1) % M := by
  have h := Nat.mod_lt (c * 2 ^ e) hM
  rw [redN_mod (by omega), ← Nat.add_mod, Nat.pow_succ]
  congr 1
  grind
theorem top_lt {M : Nat} (ho : M % 2 = 1) (h1 : 1 < M) : 2 ^ (blen M - 1) < M := by
  have h0 : 0 < blen M := blen_pos (by omega)
  have h2 := two_pow_le_of_blen (n := M) (k := blen M - 1) (by omega)
  have h3 : 2 ≤ blen M := by
    refine Nat.le_of_not_lt fun h => ?_
    have := lt_two_pow_blen M
    have h4 : 2 ^ blen M ≤ 2 ^ 1 := Nat.pow_le_pow_right (by omega) (by omega)
    omega
  obtain ⟨k, hk⟩ : ∃ k, blen M - 1 = k + 1 := ⟨blen M - 2, by omega⟩
  rw [hk, Nat.pow_succ] at h2 ⊢
  omega

/-- The carry below digit k of V + V + c. -/
def ccN (V c k : Nat) : Nat := (V % W64 ^ k + V % W64 ^ k + c) / W64 ^ k
theorem ccN_zero (V c : Nat) : ccN V c 0 = c := by simp [ccN, Nat.mod_one]
theorem cc_split (V c k : Nat) : (V % W64 ^ (k + 1) + V % W64 ^ (k + 1) + c) / W64 ^ k = dg W64 V k + dg W64 V k + ccN V c k := by
  have hp : 0 < W64 ^ k := Nat.pow_pos W64_pos
  rw [mod_succ]
  have : V % W64 ^ k + W64 ^ k * dg W64 V k + (V % W64 ^ k + W64 ^ k * dg W64 V k) + c = (V % W64 ^ k + V % W64 ^ k + c) + W64 ^ k * (dg W64 V k + dg W64 V k) := by
    rw [Nat.mul_add]; omega
  rw [this, Nat.add_mul_div_left _ _ hp]
  unfold ccN
  omega
theorem cc_digit (V c k : Nat) : dg W64 (V + V + c) k = sumW (dg W64 V k) (dg W64 V k) (ccN V c k) := by
  have h : dg W64 (V + V + c) k = dg W64 (V % W64 ^ (k + 1) + V % W64 ^ (k + 1) + c) k := by
    rw [← dg_mod_lt W64_pos (Nat.lt_succ_self k), add_mod_congr (add_mod_congr (Nat.mod_mod V _).symm (Nat.mod_mod V _).symm) rfl, dg_mod_lt W64_pos (Nat.lt_succ_self k)]
  rw [h]
  unfold dg sumW
  rw [cc_split]
  rfl
theorem cc_carry (V c k : Nat) : ccN V c (k + 1) = carW (dg W64 V k) (dg W64 V k) (ccN V c k) := by
  unfold carW
  rw [← cc_split, Nat.div_div_eq_div_mul, ← Nat.pow_succ]
  rfl
theorem ccN_le {V c : Nat} (k : Nat) (hc : c ≤ 1) : ccN V c k ≤ 1 := by
  have hp : 0 < W64 ^ k := Nat.pow_pos W64_pos
  have h1 := Nat.mod_lt V hp
  have : ccN V c k < 2 := (Nat.div_lt_iff_lt_mul hp).2 (by omega)
  omega
theorem ccN_all {V c n : Nat} (hV : V < W64 ^ n) : ccN V c n = (V + V + c) / W64 ^ n := by
  unfold ccN; rw [Nat.mod_eq_of_lt hV]
/-- One bit is shifted in. -/
theorem shift_bit {n V c M : Nat} (hV : V < M) (hM : M < W64 ^ n) (hc : c ≤ 1) :
    selN (max (1 - ltN ((V + V + c) % W64 ^ n) M) ((V + V + c) / W64 ^ n)) ((V + V + c) % W64 ^ n) (subN n ((V + V + c) % W64 ^ n) M) = (2 * V + c) % M := by
  have h := msN_eq (n := n) (T := V + V + c) hM (by omega)
  unfold msN at h
  rw [h, redN_mod (by omega)]
  congr 1; omega
/-- Behind j bits of y. -/
theorem bit_step (V y M j : Nat) (hj : j < 64) : (2 * ((V * 2 ^ j + y / 2 ^ (64 - j)) % M) + y / 2 ^ (63 - j) % 2) % M = (V * 2 ^ (j + 1) + y / 2 ^ (64 - (j + 1))) % M := by
  have e1 : y / 2 ^ (63 - j) = 2 * (y / 2 ^ (64 - j)) + y / 2 ^ (63 - j) % 2 := by
    have : y / 2 ^ (64 - j) = y / 2 ^ (63 - j) / 2 := by
      rw [Nat.div_div_eq_div_mul, ← Nat.pow_succ]
      congr 2; omega
    rw [this]; omega
  rw [show 64 - (j + 1) = 63 - j by omega]
  have e2 : V * 2 ^ (j + 1) + y / 2 ^ (63 - j) = 2 * (V * 2 ^ j + y / 2 ^ (64 - j)) + y / 2 ^ (63 - j) % 2 := by
    rw [Nat.pow_succ]
    generalize y / 2 ^ (63 - j) % 2 = t at *
    generalize y / 2 ^ (64 - j) = s at *
    generalize 2 ^ j = q at *
    rw [e1]
    grind
  rw [e2]
  exact add_mod_congr (mul_mod_congr rfl (Nat.mod_mod _ _)) rfl
end Go.Proofs.Ytpojonfopoobpaa
