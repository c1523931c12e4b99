/-
  The plain law of the Montgomery multiplication.
-/
import Derived.Test.YtmbghmjllipbhaaAddMul
namespace Go.Proofs.Ytmbghmjllipbhaa
open Go.RowKit

/-- The factor of the modulus in a round. -/
def yN (k S : Nat) : Nat := mulW (S % W64) k
/-- What has been reckoned behind i rounds. -/
def stN (k A B M : Nat) : Nat → Nat
  | 0 => 0
  | i + 1 => (stN k A B M i + A * dg W64 B i + M * yN k (stN k A B M i + A * dg W64 B i)) / W64
theorem yN_dvd {k M S : Nat} (hk : (k * M + 1) % W64 = 0) : (S + M * yN k S) % W64 = 0 := by
  unfold yN mulW
  have h1 : (S + M * (S % W64 * k % W64)) % W64 = (S + M * (S * k)) % W64 := by
    rw [Nat.add_mod, Nat.mul_mod, Nat.mod_mod, Nat.mul_mod (S % W64) k, Nat.mod_mod, ← Nat.mul_mod S k, ← Nat.mul_mod, ← Nat.add_mod]
  rw [h1]
  have h2 : S + M * (S * k) = S * (k * M + 1) := by grind
  rw [h2, Nat.mul_mod, hk, Nat.mul_zero, Nat.zero_mod]
theorem stN_lt {k A B M : Nat} (h : 0 < A + M) (i : Nat) : stN k A B M i < A + M := by
  induction i with
  | zero => exact h
  | succ i ih =>
    show (stN k A B M i + A * dg W64 B i + M * yN k (stN k A B M i + A * dg W64 B i)) / W64 < A + M
    rw [Nat.div_lt_iff_lt_mul W64_pos]
    have h1 : A * dg W64 B i ≤ A * (W64 - 1) := Nat.mul_le_mul_left _ (Nat.le_sub_one_of_lt (dg_lt W64_pos _ _))
    have h2 : M * yN k (stN k A B M i + A * dg W64 B i) ≤ M * (W64 - 1) := Nat.mul_le_mul_left _ (Nat.le_sub_one_of_lt (Nat.mod_lt _ W64_pos))
    have h3 : (A + M) * W64 = (A + M) + (A * (W64 - 1) + M * (W64 - 1)) := by
      obtain ⟨t, ht⟩ : ∃ t, W64 = t + 1 := ⟨W64 - 1, by have := W64_pos; omega⟩
      rw [ht, Nat.add_sub_cancel]
      grind
    omega
theorem stN_spec {k A B M : Nat} (hk : (k * M + 1) % W64 = 0) (i : Nat) : ∃ Q, stN k A B M i * W64 ^ i = A * (B % W64 ^ i) + Q * M := by
  induction i with
  | zero => exact ⟨0, by simp [stN, Nat.mod_one]⟩
  | succ i ih =>
    obtain ⟨Q, hQ⟩ := ih
    refine ⟨Q + W64 ^ i * yN k (stN k A B M i + A * dg W64 B i), ?_⟩
    have hd := yN_dvd (S := stN k A B M i + A * dg W64 B i) hk
    have h1 : stN k A B M (i + 1) * W64 = stN k A B M i + A * dg W64 B i + M * yN k (stN k A B M i + A * dg W64 B i) := Nat.div_mul_cancel (Nat.dvd_of_mod_eq_zero hd)
    rw [mod_succ, Nat.pow_succ]
    generalize yN k (stN k A B M i + A * dg W64 B i) = Y at *
    generalize stN k A B M (i + 1) = S1 at *
    generalize stN k A B M i = S at *
    generalize W64 ^ i = u at *
    generalize B % u = b at *
    generalize dg W64 B i = d at *
    generalize W64 = W at *
    have h2 : S1 * (u * W) = (S1 * W) * u := by grind
    rw [h2, h1]
    grind
/-- The result of the Montgomery multiplication. -/
def mmN (n k A B M : Nat) : Nat := redN (stN k A B M n) M
theorem mmN_spec {n k A B M : Nat} (hk : (k * M + 1) % W64 = 0) (hA : A < M) (hB : B < W64 ^ n) : mmN n k A B M < M ∧ mmN n k A B M * W64 ^ n % M = A * B % M := by
  have h1 := stN_lt (k := k) (B := B) (show 0 < A + M by omega) n
  obtain ⟨Q, hQ⟩ := stN_spec (A := A) (B := B) hk n
  rw [Nat.mod_eq_of_lt hB] at hQ
  unfold mmN
  rw [redN_mod (by omega)]
  refine ⟨Nat.mod_lt _ (by omega), ?_⟩
  rw [Nat.mod_mul_mod, hQ, Nat.add_mul_mod_self_right]
theorem mmN_ms {n k A B M : Nat} (hA : A < W64 ^ n) (hM : M < W64 ^ n) (h0 : 0 < M) : msN n (stN k A B M n / W64 ^ n) (stN k A B M n % W64 ^ n) M = mmN n k A B M := by
  have h1 := stN_lt (k := k) (A := A) (B := B) (show 0 < A + M by omega) n
  exact msN_eq hM (by omega)

/-- The window of a round: cells i .. i + n - 1 and the carry are the number S. -/
structure Win (n i S : Nat) (f : Nat → Nat) : Prop where
  lt : ∀ j, f j < W64
  dg : ∀ j, j < n → f (i + j) = dg W64 S j
  zero : ∀ j, i + n ≤ j → f j = 0
theorem Win.num {n i S : Nat} {f : Nat → Nat} (h : Win n i S f) : ofD W64 (fun j => f (i + j)) n = S % W64 ^ n := by
  rw [ofD_congr (g := Proofs.Ytmbghmjllipbhaa.dg W64 S) h.dg, ofD_dg]
/-- One round, on the cells: first A * d is added, then M * Y, then the carries. -/
theorem Win.round {n i k A B M : Nat} {f : Nat → Nat} (h : Win n i (stN k A B M i) f) (hn : 1 ≤ n) (hA : A < W64 ^ n) (hM : M < W64 ^ n) (h0 : 0 < M) (hk : (k * M + 1) % W64 = 0) :
    ∃ R1 R2 Y c c1 c2 : Nat, R1 = amN (fun j => f (i + j)) (Proofs.Ytmbghmjllipbhaa.dg W64 A) (Proofs.Ytmbghmjllipbhaa.dg W64 B i) n ∧ c = stN k A B M i / W64 ^ n ∧ c1 = R1 / W64 ^ n ∧ Y = mulW (Proofs.Ytmbghmjllipbhaa.dg W64 R1 0) k
      ∧ R2 = amN (fun j => if j < n then Proofs.Ytmbghmjllipbhaa.dg W64 R1 j else 0) (Proofs.Ytmbghmjllipbhaa.dg W64 M) Y n ∧ c2 = R2 / W64 ^ n ∧ c1 < W64 ∧ c2 < W64
      ∧ carW c1 c2 c = stN k A B M (i + 1) / W64 ^ n
      ∧ Win n (i + 1) (stN k A B M (i + 1)) (fun j => if j = n + i then sumW c1 c2 c else if i ≤ j ∧ j < i + n then Proofs.Ytmbghmjllipbhaa.dg W64 R2 (j - i) else f j) := by
  obtain ⟨m, rfl⟩ : ∃ m, n = m + 1 := ⟨n - 1, by omega⟩
  obtain ⟨S, hS⟩ : ∃ S, S = stN k A B M i := ⟨_, rfl⟩
  obtain ⟨d, hd⟩ : ∃ d, d = Proofs.Ytmbghmjllipbhaa.dg W64 B i := ⟨_, rfl⟩
  have hdl : d < W64 := by rw [hd]; exact limb_lt _ _
  have hst : stN k A B M (i + 1) = (S + A * d + M * yN k (S + A * d)) / W64 := by rw [hS, hd]; rfl
  have hSlt : S < A + M := by rw [hS]; exact stN_lt (by omega) i
  have hdv := yN_dvd (S := S + A * d) hk
  have hnum := h.num
  rw [← hS] at h hnum ⊢
  rw [← hd]
  have hp : 0 < W64 ^ m := Nat.pow_pos W64_pos
  have hpn : W64 ^ (m + 1) = W64 ^ m * W64 := Nat.pow_succ ..
  have hpp : 0 < W64 ^ (m + 1) := Nat.pow_pos W64_pos
  obtain ⟨R1, hR1⟩ : ∃ R1, R1 = amN (fun j => f (i + j)) (Proofs.Ytmbghmjllipbhaa.dg W64 A) d (m + 1) := ⟨_, rfl⟩
  have eR1 : R1 = S % W64 ^ (m + 1) + A * d := by rw [hR1]; unfold amN; rw [hnum, ofD_dg_of_lt hA]
  have hc1 : R1 / W64 ^ (m + 1) < W64 := by
    rw [hR1]
    exact amN_carry_lt (fun j _ => h.lt _) (fun j _ => limb_lt _ _) hdl
  have hmod : (S + A * d) % W64 = R1 % W64 := by
    have e : S + A * d = R1 + W64 * (W64 ^ m * (S / W64 ^ (m + 1))) := by
      have := Nat.div_add_mod S (W64 ^ (m + 1))
      rw [eR1, ← Nat.mul_assoc, Nat.mul_comm W64, ← hpn]
      omega
    rw [e, Nat.add_mul_mod_self_left]
  have hY : yN k (S + A * d) = mulW (Proofs.Ytmbghmjllipbhaa.dg W64 R1 0) k := by unfold yN; rw [hmod, dg_zero]
  obtain ⟨Y, hYY⟩ : ∃ Y, Y = mulW (Proofs.Ytmbghmjllipbhaa.dg W64 R1 0) k := ⟨_, rfl⟩
  have hYl : Y < W64 := by rw [hYY]; exact mulW_lt _ _
  rw [hY, ← hYY] at hst hdv
  obtain ⟨R2, hR2⟩ : ∃ R2, R2 = amN (fun j => if j < m + 1 then Proofs.Ytmbghmjllipbhaa.dg W64 R1 j else 0) (Proofs.Ytmbghmjllipbhaa.dg W64 M) Y (m + 1) := ⟨_, rfl⟩
  have hc2 : R2 / W64 ^ (m + 1) < W64 := by
    rw [hR2]
    exact amN_carry_lt (fun j hj => by rw [if_pos hj]; exact limb_lt _ _) (fun j _ => limb_lt _ _) hYl
  have eR2 : R2 = R1 % W64 ^ (m + 1) + M * Y := by
    rw [hR2]
    unfold amN
    rw [ofD_dg_of_lt hM, ofD_congr (g := Proofs.Ytmbghmjllipbhaa.dg W64 R1) (fun j hj => by rw [if_pos hj]), ofD_dg]
  refine ⟨R1, R2, Y, _, _, _, hR1, rfl, rfl, hYY, hR2, rfl, hc1, hc2, ?_⟩
  have d1 := Nat.div_add_mod S (W64 ^ (m + 1))
  have d2 := Nat.div_add_mod R1 (W64 ^ (m + 1))
  have d3 := Nat.div_add_mod R2 (W64 ^ (m + 1))
  have hZ2 := Nat.mod_lt R2 hpp
  have hcar : carW (R1 / W64 ^ (m + 1)) (R2 / W64 ^ (m + 1)) (S / W64 ^ (m + 1)) * W64 + sumW (R1 / W64 ^ (m + 1)) (R2 / W64 ^ (m + 1)) (S / W64 ^ (m + 1)) = R1 / W64 ^ (m + 1) + R2 / W64 ^ (m + 1) + S / W64 ^ (m + 1) := by
    unfold carW sumW
    rw [Nat.mul_comm]
    exact Nat.div_add_mod _ _
  have hsl : sumW (R1 / W64 ^ (m + 1)) (R2 / W64 ^ (m + 1)) (S / W64 ^ (m + 1)) < W64 := sumW_lt _ _ _
  have hsum : S + A * d + M * Y = R2 % W64 ^ (m + 1) + W64 * (W64 ^ m * (R1 / W64 ^ (m + 1) + R2 / W64 ^ (m + 1) + S / W64 ^ (m + 1))) := by
    rw [← Nat.mul_assoc, Nat.mul_comm W64, ← hpn, Nat.mul_add, Nat.mul_add]
    omega
  have hZd : R2 % W64 ^ (m + 1) % W64 = 0 := by
    rw [hsum, Nat.add_mul_mod_self_left] at hdv
    exact hdv
  have hst2 : stN k A B M (i + 1) = R2 % W64 ^ (m + 1) / W64 + W64 ^ m * (R1 / W64 ^ (m + 1) + R2 / W64 ^ (m + 1) + S / W64 ^ (m + 1)) := by
    rw [hst, hsum, Nat.add_mul_div_left _ _ W64_pos]
  have hlow : R2 % W64 ^ (m + 1) / W64 < W64 ^ m := by
    rw [Nat.div_lt_iff_lt_mul W64_pos, ← hpn]; exact hZ2
  have hdig : ∀ j, j < m → Proofs.Ytmbghmjllipbhaa.dg W64 (R2 % W64 ^ (m + 1) / W64) j = Proofs.Ytmbghmjllipbhaa.dg W64 R2 (j + 1) := by
    intro j hj
    have e := dg_div W64 (R2 % W64 ^ (m + 1)) 1 j
    rw [Nat.pow_one] at e
    rw [e, dg_mod_lt W64_pos (by omega), Nat.add_comm]
  rw [← hcar] at hst2
  generalize hcw : carW (R1 / W64 ^ (m + 1)) (R2 / W64 ^ (m + 1)) (S / W64 ^ (m + 1)) = cw at *
  generalize hsw : sumW (R1 / W64 ^ (m + 1)) (R2 / W64 ^ (m + 1)) (S / W64 ^ (m + 1)) = sw at *
  generalize hlo : R2 % W64 ^ (m + 1) / W64 = lo at *
  have hst3 : stN k A B M (i + 1) = lo + W64 ^ m * sw + W64 ^ (m + 1) * cw := by
    rw [hst2, hpn]; grind
  have hlo2 : lo + W64 ^ m * sw < W64 ^ (m + 1) := by
    have : W64 ^ m * (sw + 1) ≤ W64 ^ m * W64 := Nat.mul_le_mul_left _ hsl
    rw [Nat.mul_add, Nat.mul_one] at this
    rw [hpn]
    omega
  refine ⟨?_, ?_, ?_, ?_⟩
  · rw [hst3, Nat.add_mul_div_left _ _ hpp, Nat.div_eq_of_lt hlo2, Nat.zero_add]
  · intro j
    by_cases e : j = m + 1 + i
    · simp only [if_pos e]; exact hsl
    · simp only [if_neg e]
      by_cases e2 : i ≤ j ∧ j < i + (m + 1)
      · rw [if_pos e2]; exact limb_lt _ _
      · rw [if_neg e2]; exact h.lt j
  · intro j hj
    have e0 : Proofs.Ytmbghmjllipbhaa.dg W64 (stN k A B M (i + 1)) j = Proofs.Ytmbghmjllipbhaa.dg W64 (lo + W64 ^ m * sw) j := by
      rw [hst3, ← dg_mod_lt W64_pos hj, Nat.add_mul_mod_self_left, dg_mod_lt W64_pos hj]
    rw [e0]
    by_cases e : j = m
    · subst e
      simp only [if_pos (show i + 1 + j = j + 1 + i by omega)]
      unfold Proofs.Ytmbghmjllipbhaa.dg
      rw [Nat.add_mul_div_left _ _ hp, Nat.div_eq_of_lt hlow, Nat.zero_add, Nat.mod_eq_of_lt hsl]
    · simp only [if_neg (show ¬ i + 1 + j = m + 1 + i by omega), if_pos (show i ≤ i + 1 + j ∧ i + 1 + j < i + (m + 1) by omega)]
      rw [← dg_mod_lt W64_pos (show j < m by omega), Nat.add_mul_mod_self_left, dg_mod_lt W64_pos (show j < m by omega), hdig j (by omega)]
      congr 1
      omega
  · intro j hj
    simp only [if_neg (show ¬ j = m + 1 + i by omega), if_neg (show ¬ (i ≤ j ∧ j < i + (m + 1)) by omega)]
    exact h.zero j (by omega)
end Go.Proofs.Ytmbghmjllipbhaa
