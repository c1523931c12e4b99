/-
  Contracts: minusInverseModW, addMulVVW.
-/
import Derived.Test.YtmbghmjllipbhaaMul
namespace Go.Proofs.Ytmbghmjllipbhaa
open Go.RowKit

/-- The number below digit k of Z + X * y. -/
def amN (f g : Nat → Nat) (y k : Nat) : Nat := ofD W64 f k + ofD W64 g k * y
theorem amN_zero (f g : Nat → Nat) (y : Nat) : amN f g y 0 = 0 := by simp [amN, ofD]
theorem amN_succ (f g : Nat → Nat) (y k : Nat) : amN f g y (k + 1) = amN f g y k + W64 ^ k * (f k + g k * y) := by
  unfold amN
  simp only [ofD]
  rw [Nat.add_mul, Nat.mul_add, Nat.mul_assoc]
  omega
theorem amN_div (f g : Nat → Nat) (y k : Nat) : amN f g y (k + 1) / W64 ^ k = amN f g y k / W64 ^ k + (f k + g k * y) := by
  rw [amN_succ, Nat.add_mul_div_left _ _ (Nat.pow_pos W64_pos)]
theorem amN_add (f g : Nat → Nat) (y k j : Nat) : ∃ r, amN f g y (k + j) = amN f g y k + W64 ^ k * r := by
  induction j with
  | zero => exact ⟨0, by simp⟩
  | succ j ih =>
    obtain ⟨r, h⟩ := ih
    refine ⟨r + W64 ^ j * (f (k + j) + g (k + j) * y), ?_⟩
    rw [← Nat.add_assoc, amN_succ, h]
    generalize f (k + j) + g (k + j) * y = F
    rw [Nat.mul_add, Nat.pow_add, Nat.mul_assoc, Nat.add_assoc]
theorem amN_dg (f g : Nat → Nat) (y k n : Nat) (hk : k < n) : dg W64 (amN f g y n) k = amN f g y (k + 1) / W64 ^ k % W64 := by
  obtain ⟨r, h⟩ := amN_add f g y (k + 1) (n - (k + 1))
  rw [show k + 1 + (n - (k + 1)) = n by omega] at h
  rw [h]
  rw [← dg_mod_lt W64_pos (Nat.lt_succ_self k), Nat.add_mul_mod_self_left, dg_mod_lt W64_pos (Nat.lt_succ_self k)]
  rfl
theorem amN_carry_lt {f g : Nat → Nat} {y n : Nat} (hf : ∀ i, i < n → f i < W64) (hg : ∀ i, i < n → g i < W64) (hy : y < W64) : amN f g y n / W64 ^ n < W64 := by
  have hp : 0 < W64 ^ n := Nat.pow_pos W64_pos
  rw [Nat.div_lt_iff_lt_mul hp]
  have h1 := ofD_lt W64_pos hf
  have h2 := ofD_lt W64_pos hg
  unfold amN
  generalize ofD W64 f n = a at *
  generalize ofD W64 g n = d at *
  generalize W64 ^ n = u at *
  have h3 : d * y ≤ (u - 1) * (W64 - 1) := Nat.mul_le_mul (by omega) (by omega)
  have h4 : (u - 1) * (W64 - 1) + (u - 1) = (u - 1) * W64 := by
    obtain ⟨t, ht⟩ : ∃ t, W64 = t + 1 := ⟨W64 - 1, by have := W64_pos; omega⟩
    rw [ht, Nat.add_sub_cancel, Nat.mul_succ]
  have h5 : (u - 1) * W64 + W64 = W64 * u := by
    obtain ⟨t, rfl⟩ : ∃ t, u = t + 1 := ⟨u - 1, by omega⟩
    rw [Nat.add_sub_cancel, Nat.mul_succ, Nat.mul_comm]
  have := W64_pos
  omega
/-- One step of the long multiplication, as the code reckons it. -/
theorem am_step {x y z c : Nat} (hx : x < 18446744073709551616) (hy : y < 18446744073709551616) (hz : z < 18446744073709551616) (hc : c < 18446744073709551616) :
    sumW (sumW (mulW x y) z 0) c 0 = (c + (z + x * y)) % W64 ∧ sumW (sumW (mulH x y) 0 (carW (mulW x y) z 0)) 0 (carW (sumW (mulW x y) z 0) c 0) = (c + (z + x * y)) / W64 := by
  have h1 := mul_halves x y
  have h2 := mulH_le hx hy
  have h3 := mulW_lt x y
  have h4 : x * y ≤ 18446744073709551615 * 18446744073709551615 := Nat.mul_le_mul (by omega) (by omega)
  rw [h1] at h4 ⊢
  clear h1
  generalize mulH x y = a at *
  generalize mulW x y = d at *
  unfold sumW carW W64 at *
  omega

theorem bitsAdd_zero (x y : Nat) (w : World) (hx : x < 18446744073709551616) (hy : y < 18446744073709551616) :
    Calls Try.prog 154 #[.int .u64 x, .int .u64 y, .int .u64 0] w fun e w' => e = .returned (.tuple #[.int .u64 (sumW x y 0), .int .u64 (carW x y 0)]) ∧ w = w' := bitsAdd_any x y 0 w (by omega) hx hy
theorem bitsAdd_mid (x c : Nat) (w : World) (hx : x < 18446744073709551616) (hc : c ≤ 1) :
    Calls Try.prog 154 #[.int .u64 x, .int .u64 0, .int .u64 c] w fun e w' => e = .returned (.tuple #[.int .u64 (sumW x 0 c), .int .u64 (carW x 0 c)]) ∧ w = w' := bitsAdd_any x 0 c w hc hx (by omega)
set_option maxRecDepth 100000 in
set_option maxHeartbeats 4000000 in
theorem addMul_any (bz N off n cz bx nx cx y : Nat) (f g : Nat → Nat) (w : World) (hz : Own .u64 w bz N f) (hf : ∀ i, i < N → f i < W64) (hoff : off + n ≤ N) (hn : 1 ≤ n) (hN : N ≤ 65536) (hx : Own .u64 w bx nx g) (hnx : n ≤ nx) (hnx2 : nx ≤ 65536) (hg : ∀ i, i < nx → g i < W64) (hne : bx ≠ bz) (hy : y < 18446744073709551616) :
    Calls Try.prog 118 #[.slice (some ⟨bz, off, none⟩) n cz, .slice (some ⟨bx, 0, none⟩) nx cx, .int .u64 y] w fun e w' => e = .returned (.int .u64 (amN (fun i => f (off + i)) g y n / W64 ^ n : Nat)) ∧ Wrote w w' bz N (fun j => if off ≤ j ∧ j < off + n then dg W64 (amN (fun i => f (off + i)) g y n) (j - off) else f j) := by
  have hlast : w.cell? ⟨bx, n - 1, none⟩ = some (.int .u64 (g (n - 1) : Nat)) := hx.cell (n - 1) (by omega)
  have j1 : (n : Int) - 1 < (nx : Int) := by omega
  have j2 : (0 : Int) ≤ (n : Int) - 1 := by omega
  have j3 : ((n : Int) - 1).toNat = n - 1 := by omega
  go_enter Try.func118, Try.ntmps118
  go_wp2
  clear hlast
  go_loopw [6, 19] (fun s i wr => ∃ k z : Nat, k ≤ n ∧ i = .int .i64 k ∧ s = .int .u64 z ∧ z < 18446744073709551616 ∧ Hid (z = amN (fun i => f (off + i)) g y k / W64 ^ k) ∧ Wrote w wr bz N (fun j => if off ≤ j ∧ j < off + k then dg W64 (amN (fun i => f (off + i)) g y n) (j - off) else f j)) (fun _ i _ => n - (intOf i).toNat)
  case atStart => exact ⟨0, 0, Nat.zero_le _, rfl, rfl, by omega, by show _ = _; rw [amN_zero]; simp, .start (hz.congr (fun j _ => by rw [if_neg (by omega)]))⟩
  case round =>
    obtain ⟨k, z, hk, rfl, rfl, hz2, HZ, hw⟩ := hrel
    by_cases hlt : k < n
    · obtain ⟨d, hc1, hf1, hd, HD⟩ := hw.limb (show off + k < N by omega) (by rw [if_neg (by omega)]; exact hf _ (by omega))
      have HD : Hid (d = f (off + k)) := by rw [if_neg (by omega)] at HD; exact HD
      obtain ⟨x, hx1, hxl, HX⟩ : ∃ x : Nat, wr.cell? ⟨bx, k, none⟩ = some (.int .u64 (x : Nat)) ∧ x < 18446744073709551616 ∧ Hid (x = g k) := ⟨g k, hw.upd.cell (p := ⟨bx, k, none⟩) hne (hx.cell k (by omega)), hg k (by omega), rfl⟩
      have i1 : (k : Int) < (n : Int) := by omega
      have i2 : (k : Int) < (nx : Int) := by omega
      obtain ⟨HL, HH⟩ := am_step hxl hy hd hz2
      have HS : Hid (z + (d + x * y) = amN (fun i => f (off + i)) g y (k + 1) / W64 ^ k) := by
        show _ = _
        rw [amN_div, HZ.out, HD.out, HX.out]
      rw [HS.out] at HL HH
      rw [← amN_dg _ _ _ _ _ hlt] at HL
      rw [Nat.div_div_eq_div_mul, ← Nat.pow_succ] at HH
      obtain ⟨lo, Hlo⟩ : ∃ lo, Hid (lo = mulW x y) := ⟨_, rfl⟩
      obtain ⟨hi, Hhi⟩ : ∃ hi, Hid (hi = mulH x y) := ⟨_, rfl⟩
      have hlo : lo < 18446744073709551616 := by rw [Hlo.out]; exact mulW_lt _ _
      have hhi : hi ≤ 18446744073709551614 := by rw [Hhi.out]; exact mulH_le hxl hy
      rw [← Hlo.out] at HL HH
      rw [← Hhi.out] at HH
      have hmul := mul_any x y wr hxl hy
      rw [← Hlo.out, ← Hhi.out] at hmul
      obtain ⟨lo1, Hlo1⟩ : ∃ lo1, Hid (lo1 = sumW lo d 0) := ⟨_, rfl⟩
      obtain ⟨c1, Hc1⟩ : ∃ c1, Hid (c1 = carW lo d 0) := ⟨_, rfl⟩
      have hlo1 : lo1 < 18446744073709551616 := by rw [Hlo1.out]; exact sumW_lt _ _ _
      have hc1' : c1 ≤ 1 := by rw [Hc1.out]; exact carW_le hlo hd (by omega)
      have ha1 := bitsAdd_zero lo d wr hlo hd
      rw [← Hlo1.out] at HL HH ha1
      rw [← Hc1.out] at HH ha1
      obtain ⟨hi1, Hhi1⟩ : ∃ hi1, Hid (hi1 = sumW hi 0 c1) := ⟨_, rfl⟩
      have hhi1 : hi1 < 18446744073709551616 := by rw [Hhi1.out]; exact sumW_lt _ _ _
      have ha2 := bitsAdd_mid hi c1 wr (by omega) hc1'
      rw [← Hhi1.out] at HH ha2
      obtain ⟨lo2, Hlo2⟩ : ∃ lo2, Hid (lo2 = sumW lo1 z 0) := ⟨_, rfl⟩
      obtain ⟨c2, Hc2⟩ : ∃ c2, Hid (c2 = carW lo1 z 0) := ⟨_, rfl⟩
      have hlo2 : lo2 < 18446744073709551616 := by rw [Hlo2.out]; exact sumW_lt _ _ _
      have hc2' : c2 ≤ 1 := by rw [Hc2.out]; exact carW_le hlo1 hz2 (by omega)
      have ha3 := bitsAdd_zero lo1 z wr hlo1 hz2
      rw [← Hlo2.out] at HL ha3
      rw [← Hc2.out] at HH ha3
      obtain ⟨hi2, Hhi2⟩ : ∃ hi2, Hid (hi2 = sumW hi1 0 c2) := ⟨_, rfl⟩
      have hhi2 : hi2 < 18446744073709551616 := by rw [Hhi2.out]; exact sumW_lt _ _ _
      have ha4 := bitsAdd_mid hi1 c2 wr hhi1 hc2'
      rw [← Hhi2.out] at HH ha4
      replace HL := Lib.hid HL
      replace HH := Lib.hid HH
      replace hmul := Lib.hid hmul
      replace ha1 := Lib.hid ha1
      replace ha2 := Lib.hid ha2
      replace ha3 := Lib.hid ha3
      replace ha4 := Lib.hid ha4
      go_wp2_with fail
      with_reducible refine hmul.out.mono ?_
      rintro e w' ⟨rfl, rfl⟩
      go_wp2_with fail
      with_reducible refine ha1.out.mono ?_
      rintro e w' ⟨rfl, rfl⟩
      go_wp2_with fail
      with_reducible refine ha2.out.mono ?_
      rintro e w' ⟨rfl, rfl⟩
      go_wp2_with fail
      with_reducible refine ha3.out.mono ?_
      rintro e w' ⟨rfl, rfl⟩
      go_wp2_with fail
      with_reducible refine ha4.out.mono ?_
      rintro e w' ⟨rfl, rfl⟩
      go_wp2_with fail
      go_roundw
      case rel => exact ⟨k + 1, hi2, by omega, by go_num, rfl, hhi2, HH, (hw.set (show off + k < N by omega) lo2 rfl).congr fun j hj => by
        rw [HL.out]
        by_cases e : j = off + k
        · subst e; rw [if_pos rfl, if_pos (by omega), Nat.add_sub_cancel_left]
        · rw [if_neg e]
          by_cases e2 : off ≤ j ∧ j < off + k
          · rw [if_pos e2, if_pos (by omega)]
          · rw [if_neg e2, if_neg (by omega)]⟩
      case measure => simp [intOf]; omega
    · obtain rfl : n = k := by omega
      have HE := Lib.hid HZ.out
      go_wp2
      go_ret
      exact ⟨ret_nat HE.out, hw⟩

/-- One step towards the inverse modulo W64. -/
def nyN (x y : Nat) : Nat := mulW y (subW 2 (mulW x y))
def itN (x : Nat) : Nat → Nat
  | 0 => x
  | i + 1 => nyN x (itN x i)
/-- What minusInverseModW gives. -/
def minvN (x : Nat) : Nat := subW 0 (itN x 5)
theorem itN_lt {x : Nat} (hx : x < 18446744073709551616) (i : Nat) : itN x i < 18446744073709551616 := by
  cases i with
  | zero => exact hx
  | succ i => exact mulW_lt _ _
theorem minvN_lt (x : Nat) : minvN x < 18446744073709551616 := subW_lt _ _
theorem mulW_int (x y : Nat) : ∃ t : Int, ((mulW x y : Nat) : Int) = (x : Int) * y + 18446744073709551616 * t := by
  refine ⟨-(((x : Int) * y) / 18446744073709551616), ?_⟩
  have h : ((mulW x y : Nat) : Int) = ((x : Int) * y) % 18446744073709551616 := by
    unfold mulW W64; simp
  rw [h, Int.emod_def]
  rw [Int.mul_neg]
  omega
theorem subW_int (x y : Nat) : ∃ t : Int, ((subW x y : Nat) : Int) = (x : Int) - y + 18446744073709551616 * t := by
  have h : ((subW x y : Nat) : Int) = ((x : Int) - y) % 18446744073709551616 := by
    unfold subW W64; omega
  refine ⟨-(((x : Int) - y) / 18446744073709551616), ?_⟩
  rw [h, Int.emod_def, Int.mul_neg]
  omega
theorem nyN_int (x y : Nat) : ∃ t : Int, ((nyN x y : Nat) : Int) = (y : Int) * (2 - x * y) + 18446744073709551616 * t := by
  obtain ⟨a, ha⟩ := mulW_int x y
  obtain ⟨b, hb⟩ := subW_int 2 (mulW x y)
  obtain ⟨c, hc⟩ := mulW_int y (subW 2 (mulW x y))
  refine ⟨y * (b - a) + c, ?_⟩
  show ((mulW y (subW 2 (mulW x y)) : Nat) : Int) = _
  rw [hc, hb, ha]
  generalize (x : Int) = X
  generalize (y : Int) = Y
  show Y * (2 - (X * Y + 18446744073709551616 * a) + 18446744073709551616 * b) + 18446744073709551616 * c = _
  grind
theorem two_pow_dvd {a b : Nat} (h : a ≤ b) : (2 : Int) ^ a ∣ 2 ^ b := ⟨2 ^ (b - a), by rw [← Int.pow_add, show a + (b - a) = b by omega]⟩
theorem ny_dvd {x y k K : Nat} (hK : K ≤ 2 * k) (hK2 : K ≤ 64) (h : (2 : Int) ^ k ∣ (x : Int) * y - 1) : (2 : Int) ^ K ∣ (x : Int) * (nyN x y : Nat) - 1 := by
  obtain ⟨t, ht⟩ := nyN_int x y
  obtain ⟨r, hr⟩ := h
  have e : (x : Int) * (nyN x y : Nat) - 1 = -((x * y - 1) * (x * y - 1)) + 18446744073709551616 * (x * t) := by
    rw [ht]
    generalize (x : Int) = X
    generalize (y : Int) = Y
    grind
  rw [e, hr]
  refine Int.dvd_add ?_ ?_
  · refine (Int.dvd_neg).2 ?_
    have : (2 : Int) ^ k * r * (2 ^ k * r) = 2 ^ (2 * k) * (r * r) := by
      rw [Nat.two_mul, Int.pow_add]
      grind
    rw [this]
    exact Int.dvd_mul_of_dvd_left (two_pow_dvd hK)
  · have : (18446744073709551616 : Int) = 2 ^ 64 := rfl
    rw [this]
    exact Int.dvd_mul_of_dvd_left (two_pow_dvd hK2)
theorem minvN_spec {x : Nat} (hodd : x % 2 = 1) : (minvN x * x + 1) % W64 = 0 := by
  have h0 : (2 : Int) ^ 3 ∣ (x : Int) * (itN x 0 : Nat) - 1 := by
    show (2 : Int) ^ 3 ∣ (x : Int) * x - 1
    obtain ⟨q, r, hq, hr⟩ : ∃ q r : Nat, x = 8 * q + r ∧ (r = 1 ∨ r = 3 ∨ r = 5 ∨ r = 7) := ⟨x / 8, x % 8, by omega, by omega⟩
    rw [hq]
    have : ((8 * q + r : Nat) : Int) * ((8 * q + r : Nat) : Int) - 1 = 8 * (8 * (q * q) + 2 * (q * r)) + ((r : Int) * r - 1) := by
      push_cast
      grind
    rw [this]
    refine Int.dvd_add ⟨_, rfl⟩ ?_
    rcases hr with rfl | rfl | rfl | rfl <;> decide
  have h1 := ny_dvd (K := 6) (by omega) (by omega) h0
  have h2 := ny_dvd (K := 12) (by omega) (by omega) h1
  have h3 := ny_dvd (K := 24) (by omega) (by omega) h2
  have h4 := ny_dvd (K := 48) (by omega) (by omega) h3
  have h5 := ny_dvd (K := 64) (by omega) (by omega) h4
  have h6 : (2 : Int) ^ 64 ∣ (x : Int) * (itN x 5 : Nat) - 1 := h5
  obtain ⟨t, ht⟩ := subW_int 0 (itN x 5)
  have h7 : ((W64 : Nat) : Int) ∣ ((minvN x * x + 1 : Nat) : Int) := by
    obtain ⟨r, hr⟩ := h6
    refine ⟨t * x - r, ?_⟩
    have e1 : ((minvN x : Nat) : Int) = -(itN x 5 : Nat) + 18446744073709551616 * t := by
      show ((subW 0 (itN x 5) : Nat) : Int) = _
      rw [ht]; omega
    have e2 : ((W64 : Nat) : Int) = 18446744073709551616 := rfl
    have e3 : (2 : Int) ^ 64 = 18446744073709551616 := rfl
    rw [e3] at hr
    push_cast
    rw [e1, e2]
    generalize ((itN x 5 : Nat) : Int) = Y at *
    generalize (x : Int) = X at *
    have e4 : X * Y = 18446744073709551616 * r + 1 := by omega
    rw [Int.add_mul, Int.neg_mul, Int.mul_comm Y X, e4, Int.mul_sub, Int.mul_assoc]
    omega
  exact Nat.mod_eq_zero_of_dvd (Int.natCast_dvd_natCast.1 h7)

theorem two_sub (x : Nat) : IntKind.u64.wrap (2 - (x : Int)) = ((subW 2 x : Nat) : Int) := wrap_sub 2 x
theorem neg_wrap (x : Nat) : IntKind.u64.wrap (-(x : Int)) = ((subW 0 x : Nat) : Int) := by
  have h := wrap_sub 0 x
  rw [← h]
  congr 1
  omega
set_option maxHeartbeats 400000 in
theorem minv_any (x : Nat) (w : World) (hx : x < 18446744073709551616) :
    Calls Try.prog 158 #[.int .u64 x] w fun e w' => e = .returned (.int .u64 (minvN x)) ∧ w = w' := by
  go_enter Try.func158, Try.ntmps158
  go_wp2
  go_loop [3, 4] (fun y i => ∃ k z : Nat, k ≤ 5 ∧ i = .int .i64 k ∧ y = .int .u64 z ∧ z < 18446744073709551616 ∧ Hid (z = itN x k)) (fun _ i => 5 - (intOf i).toNat)
  case atStart => exact ⟨0, x, by omega, rfl, rfl, hx, rfl⟩
  case round =>
    obtain ⟨k, z, hk, rfl, rfl, hz, HZ⟩ := hrel
    by_cases hlt : k < 5
    · have e1 := wrap_mul x z
      have e2 := two_sub (mulW x z)
      have e3 := wrap_mul z (subW 2 (mulW x z))
      have HN : Hid (mulW z (subW 2 (mulW x z)) = itN x (k + 1)) := by show nyN x z = nyN x (itN x k); rw [HZ.out]
      have hlt' := mulW_lt z (subW 2 (mulW x z))
      go_wp2
      go_round
      case rel => exact ⟨k + 1, _, by omega, by go_num, rfl, hlt', HN⟩
      case measure => simp [intOf]; omega
    · obtain rfl : k = 5 := by omega
      have e1 := neg_wrap z
      have HE : Hid (subW 0 z = minvN x) := by show _ = _; rw [HZ.out]; rfl
      go_wp2
      go_ret
      exact ⟨ret_nat HE.out, rfl⟩
end Go.Proofs.Ytmbghmjllipbhaa
