/-
  Contracts: not, ctEq, ctMask, IsZero, IsOne, IsOdd.
-/
import Derived.Test.YtmbghmjllipbhaaBits
import Derived.Test.YtmbghmjllipbhaaNatB
namespace Go.Proofs.Ytmbghmjllipbhaa
open Go.RowKit

/-- 1 if two numbers are the same, 0 otherwise. -/
def eqN (x y : Nat) : Nat := if x = y then 1 else 0
theorem eqN_le (x y : Nat) : eqN x y ≤ 1 := by unfold eqN; split <;> omega
def geN (x y : Nat) : Nat := if y ≤ x then 1 else 0
theorem geN_le (x y : Nat) : geN x y ≤ 1 := by unfold geN; split <;> omega

theorem xor_one {c : Nat} (h : c ≤ 1) : bits .xor .u64 1 (c : Int) = ((1 - c : Nat) : Int) := by
  rw [show (1 : Int) = ((1 : Nat) : Int) from rfl, bits_xor]
  have : c = 0 ∨ c = 1 := by omega
  rcases this with rfl | rfl <;> rfl
theorem or_small {c d : Nat} (hc : c ≤ 1) (hd : d ≤ 1) : bits .or .u64 (c : Int) (d : Int) = ((max c d : Nat) : Int) := by
  rw [bits_or]
  have h1 : c = 0 ∨ c = 1 := by omega
  have h2 : d = 0 ∨ d = 1 := by omega
  rcases h1 with rfl | rfl <;> rcases h2 with rfl | rfl <;> rfl
theorem and_small {c d : Nat} (hc : c ≤ 1) (hd : d ≤ 1) : bits .and .u64 (c : Int) (d : Int) = ((c * d : Nat) : Int) := by
  rw [bits_and]
  have h1 : c = 0 ∨ c = 1 := by omega
  have h2 : d = 0 ∨ d = 1 := by omega
  rcases h1 with rfl | rfl <;> rcases h2 with rfl | rfl <;> rfl

set_option maxHeartbeats 400000 in
theorem not_any (c : Nat) (w : World) (hc : c ≤ 1) :
    Calls Try.prog 143 #[.int .u64 c] w fun e w' => e = .returned (.int .u64 (1 - c : Nat)) ∧ w = w' := by
  have h := xor_one hc
  go_enter Try.func143, Try.ntmps143
  go_wp2
  go_ret
  exact ⟨rfl, rfl⟩

theorem bitsSub_zero (x y : Nat) (w : World) (hx : x < 18446744073709551616) (hy : y < 18446744073709551616) :
    Calls Try.prog 156 #[.int .u64 x, .int .u64 y, .int .u64 0] w fun e w' => e = .returned (.tuple #[.int .u64 (difW x y 0), .int .u64 (borW x y 0)]) ∧ w = w' :=
  bitsSub_any x y 0 w (by omega) hx hy

set_option maxHeartbeats 400000 in
theorem ctEq_any (x y : Nat) (w : World) (hx : x < 18446744073709551616) (hy : y < 18446744073709551616) :
    Calls Try.prog 119 #[.int .u64 x, .int .u64 y] w fun e w' => e = .returned (.int .u64 (eqN x y)) ∧ w = w' := by
  have h1 := borW_le x y 0
  have h2 := borW_le y x 0
  have h3 := or_small h1 h2
  have HE : Hid (1 - max (borW x y 0) (borW y x 0) = eqN x y) := by
    show _ = _
    unfold borW eqN
    by_cases e : x = y
    · subst e; simp
    · rw [if_neg e]
      rcases Nat.lt_or_gt_of_ne e with h | h
      · rw [if_pos (show x < y + 0 by omega), if_neg (show ¬ y < x + 0 by omega)]; rfl
      · rw [if_neg (show ¬ x < y + 0 by omega), if_pos (show y < x + 0 by omega)]; rfl
  have h4 : max (borW x y 0) (borW y x 0) ≤ 1 := by omega
  generalize max (borW x y 0) (borW y x 0) = m at *
  have hn := not_any m w h4
  replace hn := Lib.hid hn
  go_enter Try.func119, Try.ntmps119
  go_wp2_with fail
  with_reducible refine (bitsSub_zero x y _ hx hy).mono ?_
  rintro e w1 ⟨rfl, rfl⟩
  go_wp2_with fail
  with_reducible refine (bitsSub_zero y x _ hy hx).mono ?_
  rintro e w1 ⟨rfl, rfl⟩
  go_wp2_with fail
  with_reducible refine hn.out.mono ?_
  rw [HE.out]
  rintro e w1 ⟨rfl, rfl⟩
  go_wp2_with fail
  go_ret
  exact ⟨rfl, rfl⟩

theorem ctEq_zero (x : Nat) (w : World) (hx : x < 18446744073709551616) :
    Calls Try.prog 119 #[.int .u64 x, .int .u64 0] w fun e w' => e = .returned (.int .u64 (eqN x 0)) ∧ w = w' := ctEq_any x 0 w hx (by omega)
theorem ctEq_one (x : Nat) (w : World) (hx : x < 18446744073709551616) :
    Calls Try.prog 119 #[.int .u64 x, .int .u64 1] w fun e w' => e = .returned (.int .u64 (eqN x 1)) ∧ w = w' := ctEq_any x 1 w hx (by omega)

theorem eqN_zero_step (X k : Nat) : eqN (X % W64 ^ k) 0 * eqN (dg W64 X k) 0 = eqN (X % W64 ^ (k + 1)) 0 := by
  have h := mod_succ W64 X k
  have hp : 0 < W64 ^ k := Nat.pow_pos W64_pos
  unfold eqN
  by_cases h1 : X % W64 ^ k = 0
  · by_cases h2 : dg W64 X k = 0
    · rw [if_pos h1, if_pos h2, h, h1, h2]; simp
    · rw [if_neg h2, Nat.mul_zero, if_neg]
      rw [h, h1, Nat.zero_add]
      exact Nat.ne_of_gt (Nat.mul_pos hp (by omega))
  · rw [if_neg h1, Nat.zero_mul, if_neg]
    intro h2
    rw [h] at h2
    exact h1 (Nat.eq_zero_of_add_eq_zero h2).1

set_option maxRecDepth 100000 in
set_option maxHeartbeats 400000 in
theorem isZero_any (p b c n X : Nat) (w : World) (hx : NatAt w p b c n X) :
    Calls Try.prog 96 #[.pointer (some ⟨p, 0, none⟩)] w fun e w' => e = .returned (.int .u64 (eqN X 0)) ∧ w = w' := by
  have hcell := hx.hd
  have hle := hx.le
  have hsm := hx.sm
  go_enter Try.func96, Try.ntmps96
  go_wp2_with fail
  go_loop [5, 6] (fun s i => ∃ k z : Nat, k ≤ n ∧ i = .int .i64 k ∧ s = .int .u64 z ∧ z ≤ 1 ∧ Hid (z = eqN (X % W64 ^ k) 0)) (fun _ i => n - (intOf i).toNat)
  case atStart => exact ⟨0, 1, Nat.zero_le _, rfl, rfl, by omega, by show _ = _; simp [eqN, Nat.mod_one]⟩
  case round =>
    obtain ⟨k, z, hk, rfl, rfl, hz, HZ⟩ := hrel
    by_cases hlt : k < n
    · obtain ⟨d, hd1, hd, HD⟩ := hx.limb hlt
      have ha := and_small hz (eqN_le d 0)
      have HN : Hid (z * eqN d 0 = eqN (X % W64 ^ (k + 1)) 0) := by show _ = _; rw [HZ.out, HD.out]; exact eqN_zero_step X k
      obtain ⟨z', Hz'⟩ : ∃ z', Hid (z' = z * eqN d 0) := ⟨_, rfl⟩
      have hz' : z' ≤ 1 := by rw [Hz'.out, HN.out]; exact eqN_le _ _
      rw [← Hz'.out] at ha
      go_wp2_with (go_at_call 119; with_reducible refine (ctEq_zero d _ hd).mono ?_; rintro e w' ⟨rfl, rfl⟩)
      go_round
      case rel => exact ⟨k + 1, z', by omega, by go_num, rfl, hz', by rw [Hz'.out]; exact HN⟩
      case measure => simp [intOf]; omega
    · obtain rfl : k = n := by omega
      have HE : Hid (z = eqN X 0) := by show _ = _; rw [HZ.out, Nat.mod_eq_of_lt hx.lt]
      go_wp2
      go_ret
      exact ⟨ret_nat HE.out, rfl⟩

theorem eqN_one_step (X k : Nat) (hk : 1 ≤ k) : eqN (X % W64 ^ k) 1 * eqN (dg W64 X k) 0 = eqN (X % W64 ^ (k + 1)) 1 := by
  have h := mod_succ W64 X k
  have hp : W64 ≤ W64 ^ k := by
    obtain ⟨j, rfl⟩ : ∃ j, k = j + 1 := ⟨k - 1, by omega⟩
    rw [Nat.pow_succ]
    exact Nat.le_mul_of_pos_left _ (Nat.pow_pos W64_pos)
  have hW : 1 < W64 := by decide
  unfold eqN
  by_cases h2 : dg W64 X k = 0
  · rw [if_pos h2, Nat.mul_one, h, h2, Nat.mul_zero, Nat.add_zero]
  · rw [if_neg h2, Nat.mul_zero, if_neg]
    have h3 : W64 ^ k * 1 ≤ W64 ^ k * dg W64 X k := Nat.mul_le_mul_left _ (by omega)
    intro h4
    rw [h] at h4
    generalize W64 ^ k * dg W64 X k = q at *
    generalize X % W64 ^ k = r at *
    generalize W64 ^ k = u at *
    omega

set_option maxRecDepth 100000 in
set_option maxHeartbeats 400000 in
theorem isOne_any (p b c n X : Nat) (w : World) (hx : NatAt w p b c n X) :
    Calls Try.prog 76 #[.pointer (some ⟨p, 0, none⟩)] w fun e w' => e = .returned (.int .u64 (eqN X 1)) ∧ w = w' := by
  have hcell := hx.hd
  have hle := hx.le
  have hsm := hx.sm
  by_cases hn : n = 0
  · subst hn
    have hX0 : X = 0 := by have := hx.lt; simpa using this
    subst hX0
    go_enter Try.func76, Try.ntmps76
    go_wp2
    go_ret
    exact ⟨rfl, rfl⟩
  · have hn' : ((n : Int) == 0) = false := by rw [beq_eq_false_iff_ne]; omega
    obtain ⟨d0, hd1, hd, HD⟩ := hx.limb (show 0 < n by omega)
    go_enter Try.func76, Try.ntmps76
    go_wp2_with (go_at_call 119; with_reducible refine (ctEq_one d0 _ hd).mono ?_; rintro e w' ⟨rfl, rfl⟩)
    go_loop [5, 6] (fun s i => ∃ k z : Nat, 1 ≤ k ∧ k ≤ n ∧ i = .int .i64 k ∧ s = .int .u64 z ∧ z ≤ 1 ∧ Hid (z = eqN (X % W64 ^ k) 1)) (fun _ i => n - (intOf i).toNat)
    case atStart => exact ⟨1, eqN d0 1, by omega, by omega, rfl, rfl, eqN_le _ _, by show _ = _; rw [HD.out, dg_zero, Nat.pow_one]⟩
    case round =>
      obtain ⟨k, z, hk1, hk, rfl, rfl, hz, HZ⟩ := hrel
      clear hd1 hd HD
      by_cases hlt : k < n
      · obtain ⟨d, hd1, hd, HD⟩ := hx.limb hlt
        have ha := and_small hz (eqN_le d 0)
        have HN : Hid (z * eqN d 0 = eqN (X % W64 ^ (k + 1)) 1) := by show _ = _; rw [HZ.out, HD.out]; exact eqN_one_step X k hk1
        obtain ⟨z', Hz'⟩ : ∃ z', Hid (z' = z * eqN d 0) := ⟨_, rfl⟩
        have hz' : z' ≤ 1 := by rw [Hz'.out, HN.out]; exact eqN_le _ _
        rw [← Hz'.out] at ha
        go_wp2_with (go_at_call 119; with_reducible refine (ctEq_zero d _ hd).mono ?_; rintro e w' ⟨rfl, rfl⟩)
        go_round
        case rel => exact ⟨k + 1, z', by omega, by omega, by go_num, rfl, hz', by rw [Hz'.out]; exact HN⟩
        case measure => simp [intOf]; omega
      · obtain rfl : k = n := by omega
        have HE : Hid (z = eqN X 1) := by show _ = _; rw [HZ.out, Nat.mod_eq_of_lt hx.lt]
        go_wp2
        go_ret
        exact ⟨ret_nat HE.out, rfl⟩

theorem and_one (d : Nat) : bits .and .u64 (d : Int) 1 = ((d % 2 : Nat) : Int) := by
  rw [show (1 : Int) = ((1 : Nat) : Int) from rfl, bits_and]
  congr 1
  unfold andW
  rw [Nat.and_one_is_mod]
  exact Nat.mod_eq_of_lt (by unfold W64; omega)

set_option maxHeartbeats 400000 in
theorem isOdd_any (p b c n X : Nat) (w : World) (hx : NatAt w p b c n X) :
    Calls Try.prog 95 #[.pointer (some ⟨p, 0, none⟩)] w fun e w' => e = .returned (.int .u64 (X % 2 : Nat)) ∧ w = w' := by
  have hcell := hx.hd
  by_cases hn : n = 0
  · subst hn
    have hX0 : X = 0 := by have := hx.lt; simpa using this
    subst hX0
    go_enter Try.func95, Try.ntmps95
    go_wp2
    go_ret
    exact ⟨rfl, rfl⟩
  · have hn' : ((n : Int) == 0) = false := by rw [beq_eq_false_iff_ne]; omega
    obtain ⟨d, hd1, hd, HD⟩ := hx.limb (show 0 < n by omega)
    have h1 := and_one d
    have HE : Hid (d % 2 = X % 2) := by
      show _ = _
      rw [HD.out, dg_zero]; unfold W64; omega
    obtain ⟨z, Hz⟩ : ∃ z, Hid (z = d % 2) := ⟨_, rfl⟩
    rw [← Hz.out] at h1
    have hn2 : 0 < n := by omega
    go_enter Try.func95, Try.ntmps95
    go_wp2
    go_ret
    exact ⟨ret_nat (by rw [Hz.out, HE.out]), rfl⟩
end Go.Proofs.Ytmbghmjllipbhaa
