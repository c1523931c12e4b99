/-
  The contract of impl.ShiftRight and the laws FnExactShiftRight, FnShiftSteps.
-/
import Derived.Test.YtchgachankcfiaaLawsB
import Derived.Test.YtchgachankcfiaaNatD
namespace Go.Proofs.Ytchgachankcfiaa
open Go.RowKit

set_option maxHeartbeats 400000 in
theorem iShiftRight_any (a : Option Addr) (n c k : Nat) (f : Nat → Nat) (w : World) (hn : n ≤ 100000) (hk : k ≤ 9223372036854775807) (hf : ∀ i, i < n → f i < 256) (hs : Sl .u8 w a n c f) :
    Calls Try.prog 17 #[.slice a n c, .int .i64 k] w (RetBytes w (nb (be f n / 2 ^ k)) (bytesN (be f n / 2 ^ k))) := by
  go_enter Try.func17, Try.ntmps17
  go_wp2_with fail
  refine (free_any a n c f w hn hf hs).mono ?_
  rintro e w1 ⟨p, b, c1, rfl, hx, hp, hb, hu⟩
  go_wp2_with fail
  refine (shiftRightVT_any _ _ _ _ _ _ _ hx (by omega)).mono ?_
  rintro e w2 ⟨rfl, hx2, hu2⟩
  go_wp2_with fail
  refine (told_any _ _ _ _ _ _ hx2).mono ?_
  rintro e w3 ⟨a3, c3, rfl, hs3, hu3⟩
  go_wp2_with fail
  go_ret
  exact ⟨a3, c3, rfl, hs3, (hu.then hu2 (fun i hi h => by omega)).trans hu3⟩

set_option maxHeartbeats 400000 in
theorem iShiftRight_neg (a : Option Addr) (n c : Nat) (z : Int) (w : World) (hz : z < 0) :
    Calls Try.prog 17 #[.slice a n c, .int .i64 z] w fun e w' => e = .returned (.slice none 0 0) ∧ w = w' := by
  go_enter Try.func17, Try.ntmps17
  go_wp2
  go_ret
  exact ⟨rfl, rfl⟩
set_option maxHeartbeats 400000 in
theorem sShiftRight_neg (a : Option Addr) (n c : Nat) (z : Int) (w : World) (hz : z < 0) :
    Calls Try.prog 16 #[.slice a n c, .int .i64 z] w fun e w' => e = .returned (.slice none 0 0) ∧ w = w' := by
  go_enter Try.func16, Try.ntmps16
  go_wp2
  go_ret
  exact ⟨rfl, rfl⟩
theorem nb_quot_le {f : Nat → Nat} {n : Nat} (hf : ∀ i, i < n → f i < 256) (d : Nat) : nb (be f n / d) ≤ n :=
  (nb_le_iff n _).2 (Nat.lt_of_le_of_lt (Nat.div_le_self _ _) (be_lt hf))
theorem nb_le_bytes {f : Nat → Nat} {n : Nat} (hf : ∀ i, i < n → f i < 256) : nb (be f n) ≤ n := (nb_le_iff n _).2 (be_lt hf)
theorem iShiftRight_num (a : Option Addr) (M c k : Nat) (w : World) (hn : nb M ≤ 100000) (hk : k ≤ 9223372036854775807) (hs : Sl .u8 w a (nb M) c (bytesN M)) :
    Calls Try.prog 17 #[.slice a (nb M) c, .int .i64 k] w (RetBytes w (nb (M / 2 ^ k)) (bytesN (M / 2 ^ k))) := by
  have h := iShiftRight_any a (nb M) c k (bytesN M) w hn hk (fun i _ => bytesN_lt M i) hs
  rw [be_bytesN] at h
  exact h
theorem iBitLen_num (a : Option Addr) (M c : Nat) (w : World) (hn : nb M ≤ 100000) (hs : Sl .u8 w a (nb M) c (bytesN M)) :
    Calls Try.prog 12 #[.slice a (nb M) c] w fun e w' => e = .returned (.int .i64 (blen M)) ∧ Upd0 w w' := by
  have h := iBitLen_any a (nb M) c (bytesN M) w hn (fun i _ => bytesN_lt M i) hs
  rw [be_bytesN] at h
  exact h
set_option maxHeartbeats 400000 in
theorem law_FnExactShiftRight (a : Option Addr) (n c : Nat) (f : Nat → Nat) (z : Int) (w : World) (hf : ∀ i, i < n → f i < 256) (hs : Sl .u8 w a n c f) (hz : -9223372036854775808 ≤ z ∧ z ≤ 9223372036854775807) :
    Calls Try.prog 5 #[.slice a n c, .int .i64 z] w (Holds1 w) := by
  by_cases h1 : 2147483647 < n
  · go_enter Try.func5, Try.ntmps5
    go_wp2
    go_ret
    exact ⟨rfl, .refl _ _⟩
  · by_cases h2 : 300 < n
    · have hd : decide (300 < n) = true := by simpa using h2
      have hd := Lib.hid hd
      go_enter Try.func5, Try.ntmps5
      go_wp2_with fail
      refine (long_any _ _ _ _).mono ?_
      rw [hd.out]
      rintro e w1 ⟨rfl, rfl⟩
      go_wp2
      go_ret
      exact ⟨rfl, .refl _ _⟩
    · have hd : decide (300 < n) = false := by simpa using h2
      have hd := Lib.hid hd
      by_cases h3 : 5000 < z
      · go_enter Try.func5, Try.ntmps5
        go_wp2_with fail
        refine (long_any _ _ _ _).mono ?_
        rw [hd.out]
        rintro e w1 ⟨rfl, rfl⟩
        go_wp2
        go_ret
        exact ⟨rfl, .refl _ _⟩
      · by_cases h4 : z < 0
        · have h3' : decide (5000 < z) = false := by simpa using h3
          go_enter Try.func5, Try.ntmps5
          go_wp2_with fail
          refine (long_any _ _ _ _).mono ?_
          rw [hd.out]
          rintro e w1 ⟨rfl, rfl⟩
          go_wp2_with fail
          refine (iShiftRight_neg _ _ _ _ _ h4).mono ?_
          rintro e w1 ⟨rfl, rfl⟩
          go_wp2_with fail
          refine (sShiftRight_neg _ _ _ _ _ h4).mono ?_
          rintro e w1 ⟨rfl, rfl⟩
          go_wp2_with fail
          refine (same_any none none 0 0 0 0 (fun _ => 0) (fun _ => 0) _ (by omega) (fun i _ => by omega) (fun i _ => by omega) (.nil _ _ _) (.nil _ _ _)).mono ?_
          rw [sameB_true rfl (fun _ _ => rfl)]
          rintro e w3 ⟨rfl, k, rfl⟩
          go_wp2
          go_ret
          exact ⟨rfl, (Upd.refl _ _).drewN k⟩
        · obtain ⟨k, rfl⟩ := Int.eq_ofNat_of_zero_le (show 0 ≤ z by omega)
          have h3' : decide (5000 < (k : Int)) = false := by simpa using h3
          have HN : Hid (nb (be f n / 2 ^ k) ≤ 1048576) := by
            show nb (be f n / 2 ^ k) ≤ 1048576
            have h1 := nb_quot_le hf (2 ^ k)
            omega
          go_enter Try.func5, Try.ntmps5
          go_wp2_with fail
          refine (long_any _ _ _ _).mono ?_
          rw [hd.out]
          rintro e w1 ⟨rfl, rfl⟩
          go_wp2_with fail
          refine (iShiftRight_any _ _ _ k _ _ (by omega) (by omega) hf hs).mono ?_
          rintro e w1 ⟨a1, c1, rfl, hs1, hu1⟩
          go_wp2_with fail
          refine (sShiftRight_any _ _ _ k _ _ (by omega) (by omega) hf (hs.keep hu1)).mono ?_
          rintro e w2 ⟨a2, c2, rfl, hs2, hu2⟩
          go_wp2_with fail
          refine (same_any _ _ _ _ _ _ _ _ _ HN.out (fun i _ => dg_lt (by omega) _ _) (fun i _ => dg_lt (by omega) _ _) (hs1.keep hu2).rd hs2.rd).mono ?_
          rw [sameB_true rfl (fun _ _ => rfl)]
          rintro e w3 ⟨rfl, k, rfl⟩
          go_wp2
          go_ret
          exact ⟨rfl, (hu1.trans hu2).drewN k⟩
theorem blen_div_pow (N k : Nat) : blen (N / 2 ^ k) = blen N - k := by
  by_cases h : N / 2 ^ k = 0
  · rw [h, blen_zero]
    have h1 : N < 2 ^ k := by
      rcases Nat.lt_or_ge N (2 ^ k) with h1 | h1
      · exact h1
      · have := Nat.div_pos h1 (Nat.pow_pos (by omega)); omega
    have := (blen_le_iff k N).2 h1
    omega
  · have h1 := blen_add_lt (a := N / 2 ^ k) (c := N % 2 ^ k) (k := k) h (Nat.mod_lt _ (Nat.pow_pos (by omega)))
    rw [Nat.mul_comm, Nat.div_add_mod] at h1
    omega

set_option maxHeartbeats 1000000 in
theorem law_FnShiftSteps (a : Option Addr) (n c : Nat) (f : Nat → Nat) (y z : Int) (w : World) (hf : ∀ i, i < n → f i < 256) (hs : Sl .u8 w a n c f) (hy : -9223372036854775808 ≤ y ∧ y ≤ 9223372036854775807) (hz : -9223372036854775808 ≤ z ∧ z ≤ 9223372036854775807) :
    Calls Try.prog 6 #[.slice a n c, .int .i64 y, .int .i64 z] w (Holds1 w) := by
  by_cases h1 : 2147483647 < n
  · go_enter Try.func6, Try.ntmps6
    go_wp2
    go_ret
    exact ⟨rfl, .refl _ _⟩
  · by_cases h2 : 300 < n
    · have hd : decide (300 < n) = true := by simpa using h2
      have hd := Lib.hid hd
      go_enter Try.func6, Try.ntmps6
      go_wp2_with fail
      refine (long_any _ _ _ _).mono ?_
      rw [hd.out]
      rintro e w1 ⟨rfl, rfl⟩
      go_wp2
      go_ret
      exact ⟨rfl, .refl _ _⟩
    · have hd : decide (300 < n) = false := by simpa using h2
      have hd := Lib.hid hd
      by_cases hyz : 0 ≤ y ∧ 0 ≤ z ∧ y ≤ 2500 ∧ z ≤ 2500
      · obtain ⟨y0, z0, y1, z1⟩ := hyz
        obtain ⟨k, rfl⟩ := Int.eq_ofNat_of_zero_le y0
        obtain ⟨l, rfl⟩ := Int.eq_ofNat_of_zero_le z0
        have hb := blen_le_bytes hf
        have HB1 : Hid (blen (be f n / 2 ^ k) = blen (be f n) - k) := blen_div_pow _ _
        have HQ : Hid (be f n / 2 ^ k / 2 ^ l = be f n / 2 ^ (k + l)) := by
          show _ = _
          rw [Nat.div_div_eq_div_mul, Nat.pow_add]
        have hN1 : nb (be f n / 2 ^ k) ≤ 300 := by have := nb_quot_le hf (2 ^ k); omega
        have hN2 : nb (be f n / 2 ^ (k + l)) ≤ 300 := by have := nb_quot_le hf (2 ^ (k + l)); omega
        have hcall := fun (w : World) (hs : Sl .u8 w a n c f) => iShiftRight_any a n c (k + l) f w (by omega) (by omega) hf hs
        rw [Int.natCast_add] at hcall
        have hcall := Lib.hid hcall
        by_cases hz0 : be f n = 0
        · have hzd : decide (be f n = 0) = true := decide_eq_true hz0
          have hzd := Lib.hid hzd
          clear hz0
          by_cases hbk : blen (be f n) < k
          · have hbk' : (blen (be f n) : Int) - (k : Int) < 0 := by omega
            go_enter Try.func6, Try.ntmps6
            go_wp2_with fail
            refine (long_any _ _ _ _).mono ?_
            rw [hd.out]
            rintro e w1 ⟨rfl, rfl⟩
            go_wp2_with fail
            refine (iBitLen_any _ _ _ _ _ (by omega) hf hs).mono ?_
            rintro e w1 ⟨rfl, hu⟩
            go_wp2_with fail
            refine (zero_any _ _ _ _ _ (by omega) hf (hs.keep hu).rd).mono ?_
            rw [hzd.out]
            rintro e w1' ⟨rfl, rfl⟩
            go_wp2_with fail
            refine (iShiftRight_any _ _ _ k _ _ (by omega) (by omega) hf (hs.keep hu)).mono ?_
            rintro e w2 ⟨a2, c2, rfl, hs2, hu2⟩
            replace hu2 := hu.trans hu2
            go_wp2_with fail
            refine (iShiftRight_num _ _ _ l _ (by omega) (by omega) hs2).mono ?_
            rw [HQ.out]
            rintro e w3 ⟨a3, c3, rfl, hs3, hu3⟩
            replace hu3 := hu2.trans hu3
            go_wp2_with fail
            refine (hcall.out _ (hs.keep hu3)).mono ?_
            rintro e w4 ⟨a4, c4, rfl, hs4, hu4⟩
            have hs3' := hs3.keep hu4
            replace hu4 := hu3.trans hu4
            go_wp2_with fail
            refine (same_any _ _ _ _ _ _ _ _ _ (by omega) (fun i _ => dg_lt (by omega) _ _) (fun i _ => dg_lt (by omega) _ _) hs3'.rd hs4.rd).mono ?_
            rw [sameB_true rfl (fun _ _ => rfl)]
            rintro e w5 ⟨rfl, q, rfl⟩
            replace hu4 := hu4.drewN q
            go_wp2_with fail
            refine (iShiftRight_any _ _ _ k _ _ (by omega) (by omega) hf (hs.keep hu4)).mono ?_
            rintro e w6 ⟨a6, c6, rfl, hs6, hu6⟩
            replace hu6 := hu4.trans hu6
            go_wp2_with fail
            refine (iBitLen_num _ _ _ _ (by omega) hs6).mono ?_
            rw [HB1.out]
            rintro e w7 ⟨rfl, hu7⟩
            replace hu7 := hu6.trans hu7
            go_wp2
            go_ret
            exact ⟨ret_bool (by simp; omega), hu7⟩
          · have hbk' : ¬ (blen (be f n) : Int) - (k : Int) < 0 := by omega
            go_enter Try.func6, Try.ntmps6
            go_wp2_with fail
            refine (long_any _ _ _ _).mono ?_
            rw [hd.out]
            rintro e w1 ⟨rfl, rfl⟩
            go_wp2_with fail
            refine (iBitLen_any _ _ _ _ _ (by omega) hf hs).mono ?_
            rintro e w1 ⟨rfl, hu⟩
            go_wp2_with fail
            refine (zero_any _ _ _ _ _ (by omega) hf (hs.keep hu).rd).mono ?_
            rw [hzd.out]
            rintro e w1' ⟨rfl, rfl⟩
            go_wp2_with fail
            refine (iShiftRight_any _ _ _ k _ _ (by omega) (by omega) hf (hs.keep hu)).mono ?_
            rintro e w2 ⟨a2, c2, rfl, hs2, hu2⟩
            replace hu2 := hu.trans hu2
            go_wp2_with fail
            refine (iShiftRight_num _ _ _ l _ (by omega) (by omega) hs2).mono ?_
            rw [HQ.out]
            rintro e w3 ⟨a3, c3, rfl, hs3, hu3⟩
            replace hu3 := hu2.trans hu3
            go_wp2_with fail
            refine (hcall.out _ (hs.keep hu3)).mono ?_
            rintro e w4 ⟨a4, c4, rfl, hs4, hu4⟩
            have hs3' := hs3.keep hu4
            replace hu4 := hu3.trans hu4
            go_wp2_with fail
            refine (same_any _ _ _ _ _ _ _ _ _ (by omega) (fun i _ => dg_lt (by omega) _ _) (fun i _ => dg_lt (by omega) _ _) hs3'.rd hs4.rd).mono ?_
            rw [sameB_true rfl (fun _ _ => rfl)]
            rintro e w5 ⟨rfl, q, rfl⟩
            replace hu4 := hu4.drewN q
            go_wp2_with fail
            refine (iShiftRight_any _ _ _ k _ _ (by omega) (by omega) hf (hs.keep hu4)).mono ?_
            rintro e w6 ⟨a6, c6, rfl, hs6, hu6⟩
            replace hu6 := hu4.trans hu6
            go_wp2_with fail
            refine (iBitLen_num _ _ _ _ (by omega) hs6).mono ?_
            rw [HB1.out]
            rintro e w7 ⟨rfl, hu7⟩
            replace hu7 := hu6.trans hu7
            go_wp2
            go_ret
            exact ⟨ret_bool (by simp; omega), hu7⟩
        · have hzd : decide (be f n = 0) = false := decide_eq_false hz0
          have hzd := Lib.hid hzd
          have hb1 : 1 ≤ blen (be f n) := blen_pos hz0
          clear hz0
          by_cases hbk : blen (be f n) < k
          · have hbk' : (blen (be f n) : Int) - (k : Int) < 0 := by omega
            go_enter Try.func6, Try.ntmps6
            go_wp2_with fail
            refine (long_any _ _ _ _).mono ?_
            rw [hd.out]
            rintro e w1 ⟨rfl, rfl⟩
            go_wp2_with fail
            refine (iBitLen_any _ _ _ _ _ (by omega) hf hs).mono ?_
            rintro e w1 ⟨rfl, hu⟩
            go_wp2_with fail
            refine (zero_any _ _ _ _ _ (by omega) hf (hs.keep hu).rd).mono ?_
            rw [hzd.out]
            rintro e w1' ⟨rfl, rfl⟩
            go_wp2_with fail
            refine (iBitLen_any _ _ _ _ _ (by omega) hf (hs.keep hu)).mono ?_
            rintro e w1'' ⟨rfl, hu'⟩
            replace hu := hu.trans hu'
            go_wp2_with fail
            refine (iShiftRight_any _ _ _ k _ _ (by omega) (by omega) hf (hs.keep hu)).mono ?_
            rintro e w2 ⟨a2, c2, rfl, hs2, hu2⟩
            replace hu2 := hu.trans hu2
            go_wp2_with fail
            refine (iShiftRight_num _ _ _ l _ (by omega) (by omega) hs2).mono ?_
            rw [HQ.out]
            rintro e w3 ⟨a3, c3, rfl, hs3, hu3⟩
            replace hu3 := hu2.trans hu3
            go_wp2_with fail
            refine (hcall.out _ (hs.keep hu3)).mono ?_
            rintro e w4 ⟨a4, c4, rfl, hs4, hu4⟩
            have hs3' := hs3.keep hu4
            replace hu4 := hu3.trans hu4
            go_wp2_with fail
            refine (same_any _ _ _ _ _ _ _ _ _ (by omega) (fun i _ => dg_lt (by omega) _ _) (fun i _ => dg_lt (by omega) _ _) hs3'.rd hs4.rd).mono ?_
            rw [sameB_true rfl (fun _ _ => rfl)]
            rintro e w5 ⟨rfl, q, rfl⟩
            replace hu4 := hu4.drewN q
            go_wp2_with fail
            refine (iShiftRight_any _ _ _ k _ _ (by omega) (by omega) hf (hs.keep hu4)).mono ?_
            rintro e w6 ⟨a6, c6, rfl, hs6, hu6⟩
            replace hu6 := hu4.trans hu6
            go_wp2_with fail
            refine (iBitLen_num _ _ _ _ (by omega) hs6).mono ?_
            rw [HB1.out]
            rintro e w7 ⟨rfl, hu7⟩
            replace hu7 := hu6.trans hu7
            go_wp2
            go_ret
            exact ⟨ret_bool (by simp; omega), hu7⟩
          · have hbk' : ¬ (blen (be f n) : Int) - (k : Int) < 0 := by omega
            go_enter Try.func6, Try.ntmps6
            go_wp2_with fail
            refine (long_any _ _ _ _).mono ?_
            rw [hd.out]
            rintro e w1 ⟨rfl, rfl⟩
            go_wp2_with fail
            refine (iBitLen_any _ _ _ _ _ (by omega) hf hs).mono ?_
            rintro e w1 ⟨rfl, hu⟩
            go_wp2_with fail
            refine (zero_any _ _ _ _ _ (by omega) hf (hs.keep hu).rd).mono ?_
            rw [hzd.out]
            rintro e w1' ⟨rfl, rfl⟩
            go_wp2_with fail
            refine (iBitLen_any _ _ _ _ _ (by omega) hf (hs.keep hu)).mono ?_
            rintro e w1'' ⟨rfl, hu'⟩
            replace hu := hu.trans hu'
            go_wp2_with fail
            refine (iShiftRight_any _ _ _ k _ _ (by omega) (by omega) hf (hs.keep hu)).mono ?_
            rintro e w2 ⟨a2, c2, rfl, hs2, hu2⟩
            replace hu2 := hu.trans hu2
            go_wp2_with fail
            refine (iShiftRight_num _ _ _ l _ (by omega) (by omega) hs2).mono ?_
            rw [HQ.out]
            rintro e w3 ⟨a3, c3, rfl, hs3, hu3⟩
            replace hu3 := hu2.trans hu3
            go_wp2_with fail
            refine (hcall.out _ (hs.keep hu3)).mono ?_
            rintro e w4 ⟨a4, c4, rfl, hs4, hu4⟩
            have hs3' := hs3.keep hu4
            replace hu4 := hu3.trans hu4
            go_wp2_with fail
            refine (same_any _ _ _ _ _ _ _ _ _ (by omega) (fun i _ => dg_lt (by omega) _ _) (fun i _ => dg_lt (by omega) _ _) hs3'.rd hs4.rd).mono ?_
            rw [sameB_true rfl (fun _ _ => rfl)]
            rintro e w5 ⟨rfl, q, rfl⟩
            replace hu4 := hu4.drewN q
            go_wp2_with fail
            refine (iShiftRight_any _ _ _ k _ _ (by omega) (by omega) hf (hs.keep hu4)).mono ?_
            rintro e w6 ⟨a6, c6, rfl, hs6, hu6⟩
            replace hu6 := hu4.trans hu6
            go_wp2_with fail
            refine (iBitLen_num _ _ _ _ (by omega) hs6).mono ?_
            rw [HB1.out]
            rintro e w7 ⟨rfl, hu7⟩
            replace hu7 := hu6.trans hu7
            go_wp2
            go_ret
            exact ⟨ret_bool (by simp; omega), hu7⟩
      · go_enter Try.func6, Try.ntmps6
        go_wp2_with fail
        refine (long_any _ _ _ _).mono ?_
        rw [hd.out]
        rintro e w1 ⟨rfl, rfl⟩
        go_wp2
        all_goals
          go_ret
          exact ⟨rfl, .refl _ _⟩
end Go.Proofs.Ytchgachankcfiaa
