/-
  The contracts of DivShort in the reference and in the thin package, and the laws FnExactDivShort, FnDivShift.
-/
import Derived.Test.YtchgachankcfiaaLawsC
import Derived.Test.YtchgachankcfiaaDivB
import Derived.Test.YtchgachankcfiaaSpecF
namespace Go.Proofs.Ytchgachankcfiaa
open Go.RowKit

/-- Bytes, a number and true are returned. -/
def RetDivB (w : World) (Q R : Nat) (e : Ending) (w' : World) : Prop :=
  ∃ a c, e = .returned (.tuple #[.slice a (nb Q) c, .int .i64 R, .bool true]) ∧ Sl .u8 w' a (nb Q) c (bytesN Q) ∧ Upd0 w w'

set_option maxHeartbeats 1000000 in
theorem sDivShort_any (a : Option Addr) (n c y : Nat) (f : Nat → Nat) (w : World) (hn : n ≤ 10000) (hy : y ≤ 9223372036854775807) (hy0 : 0 < y) (hf : ∀ i, i < n → f i < 256) (hs : Sl .u8 w a n c f) :
    Calls Try.prog 20 #[.slice a n c, .int .i64 y] w (RetDivB w (be f n / y) (be f n % y)) := by
  have hd := nd_le_bytes hf
  have hb := blen_le_bytes hf
  have hread := read_any a n c f w (by omega) hf hs.rd
  generalize be f n = N at *
  have hnd : nd y ≤ 10000 := Nat.le_trans ((nd_le_iff 4 y).2 (by omega)) (by omega)
  have hbq : blen (N / y) ≤ 1048576 := Nat.le_trans (blen_mono (Nat.div_le_self N y)) (by omega)
  obtain ⟨R, HR⟩ : ∃ R, Hid (R = N % y) := ⟨_, rfl⟩
  obtain ⟨Q, HQ⟩ : ∃ Q, Hid (Q = N / y) := ⟨_, rfl⟩
  rw [← HQ.out] at hbq
  rw [← HR.out, ← HQ.out]
  have hRy : R < y := by rw [HR.out]; exact Nat.mod_lt _ hy0
  have hndR : nd R ≤ 4 := (nd_le_iff 4 R).2 (by omega)
  have HLR : Hid (R < 65536 ^ nd R) := lt_pow_nd R
  replace hread := Lib.hid hread
  go_enter Try.func20, Try.ntmps20
  go_wp2_with fail
  with_reducible refine hread.out.mono ?_
  rintro e w1 ⟨a1, c1, rfl, hs1, hu1⟩
  go_wp2_with fail
  with_reducible refine (small_any y _ hy).mono ?_
  rintro e w2 ⟨a2, c2, rfl, hs2, hu2⟩
  go_wp2_with fail
  with_reducible refine (quotient_any _ _ _ _ N y _ (by omega) hnd hy0 (hs1.keep hu2) hs2).mono ?_
  rw [← HR.out, ← HQ.out]
  rintro e w3 ⟨a3, c3, a3', c3', rfl, hs3, hs3', hu3⟩
  replace hu3 := (hu1.trans hu2).trans hu3
  obtain ⟨lr, Hlr⟩ : ∃ lr, Hid (lr = nd R) := ⟨_, rfl⟩
  rw [← Hlr.out] at hs3' hndR HLR ⊢
  go_wp2_with fail
  go_loop [9, 10] (fun s i => ∃ k L : Nat, k ≤ lr ∧ i = .int .i64 ((k : Int) - 1) ∧ s = .int .i64 L ∧ L ≤ R ∧ Hid (L = R / 65536 ^ k)) (fun _ i => (intOf i + 1).toNat)
  case atStart => exact ⟨lr, 0, Nat.le_refl _, rfl, rfl, Nat.zero_le _, by show _ = _; rw [Nat.div_eq_of_lt HLR.out]⟩
  case round =>
    obtain ⟨k, L, hk, hi, rfl, hL, HL⟩ := hrel
    by_cases h0 : k = 0
    · subst h0
      subst hi
      have HE : Hid (L = R) := by have := HL.out; show L = R; simpa using this
      go_wp2_with fail
      with_reducible refine (short_any _ _ Q _ hbq hs3.rd).mono ?_
      rintro e w4 ⟨a4, c4, rfl, hs4, hu4⟩
      go_wp2_with fail
      go_ret3
      exact ⟨a4, c4, by rw [← HE.out]; rfl, hs4, hu3.trans hu4⟩
    · obtain ⟨j, rfl⟩ : ∃ j, k = j + 1 := ⟨k - 1, by omega⟩
      replace hi := hi.trans (show Value.int .i64 (((j + 1 : Nat) : Int) - 1) = .int .i64 (j : Int) by congr 1; omega)
      subst hi
      obtain ⟨b, off, d, rfl, hcell, hd2, HD⟩ := num_cell hs3'.rd (show j < lr by omega)
      have HN : L * 65536 + d = R / 65536 ^ j := by
        rw [div_split (by omega) R j, HL.out, HD.out]
      have hNR : R / 65536 ^ j ≤ R := Nat.div_le_self _ _
      have hb2 : L * 65536 + d ≤ R := by rw [HN]; exact hNR
      replace HN := Lib.hid HN
      clear hNR
      go_wp2
      go_round
      case rel => exact ⟨j, L * 65536 + d, by omega, rfl, by congr 1, hb2, HN⟩
      case measure => simp [intOf]

set_option maxHeartbeats 400000 in
theorem sDivShort_neg (a : Option Addr) (n c : Nat) (z : Int) (w : World) (hz : z < 1) :
    Calls Try.prog 20 #[.slice a n c, .int .i64 z] w fun e w' => e = .returned (.tuple #[.slice none 0 0, .int .i64 0, .bool false]) ∧ w = w' := by
  go_enter Try.func20, Try.ntmps20
  go_wp2
  go_ret3
  exact ⟨rfl, rfl⟩
set_option maxHeartbeats 1000000 in
theorem iDivShort_any (a : Option Addr) (n c y : Nat) (f : Nat → Nat) (w : World) (hn : n ≤ 100000) (hy : y ≤ 9223372036854775807) (hy0 : 0 < y) (hf : ∀ i, i < n → f i < 256) (hs : Sl .u8 w a n c f) :
    Calls Try.prog 19 #[.slice a n c, .int .i64 y] w (RetDivB w (be f n / y) (be f n % y)) := by
  obtain ⟨R, HR⟩ : ∃ R, Hid (R = be f n % y) := ⟨_, rfl⟩
  have hRy : R < y := by rw [HR.out]; exact Nat.mod_lt _ hy0
  rw [← HR.out]
  go_enter Try.func19, Try.ntmps19
  go_wp2_with fail
  with_reducible refine (free_any a n c f w hn hf hs).mono ?_
  rintro e w1 ⟨p, b, c1, rfl, hx, hp, hb, hu⟩
  go_wp2_with fail
  with_reducible refine (divShortVT_any _ _ _ _ _ y _ hx (by omega) hy0).mono ?_
  rw [← HR.out]
  rintro e w2 ⟨rfl, hx2, hu2⟩
  go_wp2_with fail
  with_reducible refine (told_any _ _ _ _ _ _ hx2).mono ?_
  rintro e w3 ⟨a3, c3, rfl, hs3, hu3⟩
  go_wp2_with fail
  go_ret3
  exact ⟨a3, c3, rfl, hs3, (hu.then hu2 (fun i hi h => by omega)).trans hu3⟩

set_option maxHeartbeats 400000 in
theorem iDivShort_neg (a : Option Addr) (n c : Nat) (z : Int) (w : World) (hz : z < 1) :
    Calls Try.prog 19 #[.slice a n c, .int .i64 z] w fun e w' => e = .returned (.tuple #[.slice none 0 0, .int .i64 0, .bool false]) ∧ w = w' := by
  go_enter Try.func19, Try.ntmps19
  go_wp2
  go_ret3
  exact ⟨rfl, rfl⟩
set_option maxHeartbeats 1000000 in
theorem law_FnExactDivShort (a : Option Addr) (n c : Nat) (f : Nat → Nat) (z : Int) (w : World) (hf : ∀ i, i < n → f i < 256) (hs : Sl .u8 w a n c f) (hz : -9223372036854775808 ≤ z ∧ z ≤ 9223372036854775807) :
    Calls Try.prog 7 #[.slice a n c, .int .i64 z] w (Holds1 w) := by
  by_cases h1 : 2147483647 < n
  · go_enter Try.func7, Try.ntmps7
    go_wp2
    go_ret
    exact ⟨rfl, .refl _ _⟩
  · by_cases h2 : 300 < n
    · have hd : decide (300 < n) = true := by simpa using h2
      replace hd := Lib.hid hd
      go_enter Try.func7, Try.ntmps7
      go_wp2_with fail
      refine (long_any _ _ _ _).mono ?_
      rw [hd.out]
      rintro e w1 ⟨rfl, rfl⟩
      go_wp2
      go_ret
      exact ⟨rfl, .refl _ _⟩
    · have hd : decide (300 < n) = false := by simpa using h2
      replace hd := Lib.hid hd
      by_cases h4 : z < 1
      · go_enter Try.func7, Try.ntmps7
        go_wp2_with fail
        refine (long_any _ _ _ _).mono ?_
        rw [hd.out]
        rintro e w1 ⟨rfl, rfl⟩
        go_wp2_with fail
        with_reducible refine (iDivShort_neg _ _ _ _ _ h4).mono ?_
        rintro e w1 ⟨rfl, rfl⟩
        go_wp2_with fail
        with_reducible refine (sDivShort_neg _ _ _ _ _ h4).mono ?_
        rintro e w1 ⟨rfl, rfl⟩
        go_wp2_with fail
        with_reducible refine (same_any none none 0 0 0 0 (fun _ => 0) (fun _ => 0) _ (by omega) (fun i _ => by omega) (fun i _ => by omega) (.nil _ _ _) (.nil _ _ _)).mono ?_
        rw [sameB_true rfl (fun _ _ => rfl)]
        rintro e w3 ⟨rfl, k, rfl⟩
        go_wp2
        go_ret
        exact ⟨rfl, (Upd.refl _ _).drewN k⟩
      · obtain ⟨y, rfl⟩ := Int.eq_ofNat_of_zero_le (show 0 ≤ z by omega)
        have HN : Hid (nb (be f n / y) ≤ 1048576) := by
          show nb (be f n / y) ≤ 1048576
          have h1 := nb_quot_le hf y
          omega
        have hi := fun w (hs : Sl .u8 w a n c f) => iDivShort_any a n c y f w (by omega) (by omega) (by omega) hf hs
        have hsp := fun w (hs : Sl .u8 w a n c f) => sDivShort_any a n c y f w (by omega) (by omega) (by omega) hf hs
        obtain ⟨R, HR⟩ : ∃ R, Hid (R = be f n % y) := ⟨_, rfl⟩
        rw [← HR.out] at hi hsp
        replace hi := Lib.hid hi
        replace hsp := Lib.hid hsp
        have hq : ((R : Int) == (R : Int)) = true := by simp
        go_enter Try.func7, Try.ntmps7
        go_wp2_with fail
        refine (long_any _ _ _ _).mono ?_
        rw [hd.out]
        rintro e w1 ⟨rfl, rfl⟩
        go_wp2_with fail
        with_reducible refine (hi.out _ hs).mono ?_
        rintro e w1 ⟨a1, c1, rfl, hs1, hu1⟩
        go_wp2_with fail
        with_reducible refine (hsp.out _ (hs.keep hu1)).mono ?_
        rintro e w2 ⟨a2, c2, rfl, hs2, hu2⟩
        go_wp2_with fail
        with_reducible refine (same_any _ _ _ _ _ _ _ _ _ HN.out (fun i _ => dg_lt (by omega) _ _) (fun i _ => dg_lt (by omega) _ _) (hs1.keep hu2).rd hs2.rd).mono ?_
        rw [sameB_true rfl (fun _ _ => rfl)]
        rintro e w3 ⟨rfl, k, rfl⟩
        go_wp2
        go_ret
        exact ⟨rfl, (hu1.trans hu2).drewN k⟩

set_option maxHeartbeats 1000000 in
theorem law_FnDivShift (a : Option Addr) (n c : Nat) (f : Nat → Nat) (z : Int) (w : World) (hf : ∀ i, i < n → f i < 256) (hs : Sl .u8 w a n c f) (hz : -9223372036854775808 ≤ z ∧ z ≤ 9223372036854775807) :
    Calls Try.prog 8 #[.slice a n c, .int .i64 z] w (Holds1 w) := by
  by_cases h1 : 2147483647 < n
  · go_enter Try.func8, Try.ntmps8
    go_wp2
    go_ret
    exact ⟨rfl, .refl _ _⟩
  · by_cases h2 : 300 < n
    · have hd : decide (300 < n) = true := by simpa using h2
      replace hd := Lib.hid hd
      go_enter Try.func8, Try.ntmps8
      go_wp2_with fail
      refine (long_any _ _ _ _).mono ?_
      rw [hd.out]
      rintro e w1 ⟨rfl, rfl⟩
      go_wp2
      go_ret
      exact ⟨rfl, .refl _ _⟩
    · have hd : decide (300 < n) = false := by simpa using h2
      replace hd := Lib.hid hd
      by_cases h4 : 0 ≤ z ∧ z ≤ 60
      · obtain ⟨z0, z1⟩ := h4
        obtain ⟨k, rfl⟩ := Int.eq_ofNat_of_zero_le z0
        have q1 : decide ((k : Int) < 0) = false := by simp
        have q2 : decide (60 < (k : Int)) = false := by simp; omega
        have HN : Hid (nb (be f n / 2 ^ k) ≤ 1048576) := by
          show nb (be f n / 2 ^ k) ≤ 1048576
          have h1 := nb_quot_le hf (2 ^ k)
          omega
        go_enter Try.func8, Try.ntmps8
        go_wp2_with fail
        refine (long_any _ _ _ _).mono ?_
        rw [hd.out]
        rintro e w1 ⟨rfl, rfl⟩
        go_wp2_with fail
        go_loop [5, 6] (fun s i => ∃ j y : Nat, j ≤ k ∧ i = .int .i64 j ∧ s = .int .i64 y ∧ y ≤ 1152921504606846976 ∧ 0 < y ∧ Hid (y = 2 ^ j)) (fun _ i => k - (intOf i).toNat)
        case atStart => exact ⟨0, 1, Nat.zero_le _, rfl, rfl, by omega, by omega, rfl⟩
        case round =>
          obtain ⟨j, y, hj, rfl, rfl, hy, hy0, HY⟩ := hrel
          by_cases hlt : j < k
          · have HY2 : Hid (y * 2 = 2 ^ (j + 1)) := by show _ = _; rw [HY.out, Nat.pow_succ]
            have hy2 : y * 2 ≤ 1152921504606846976 := by
              rw [HY2.out]
              have : (2 : Nat) ^ (j + 1) ≤ 2 ^ 60 := Nat.pow_le_pow_right (by omega) (by omega)
              exact this
            go_wp2
            go_round
            case rel => exact ⟨j + 1, y * 2, by omega, by go_num, by go_num, hy2, by omega, HY2⟩
            case measure => simp [intOf]; omega
          · obtain rfl : j = k := by omega
            have hi := iDivShort_any a n c y f w (by omega) (by omega) (by omega) hf hs
            rw [HY.out] at hi
            obtain ⟨R, HR⟩ : ∃ R, Hid (R = be f n % 2 ^ j) := ⟨_, rfl⟩
            rw [← HR.out, ← HY.out] at hi
            have HN2 : Hid (nb (be f n / y) ≤ 1048576) := by rw [HY.out]; exact HN.out
            replace hi := Lib.hid hi
            go_wp2_with fail
            with_reducible refine hi.out.mono ?_
            rintro e w1 ⟨a1, c1, rfl, hs1, hu1⟩
            go_wp2_with fail
            with_reducible refine (iShiftRight_any _ _ _ j _ _ (by omega) (by omega) hf (hs.keep hu1)).mono ?_
            rw [← HY.out]
            rintro e w2 ⟨a2, c2, rfl, hs2, hu2⟩
            go_wp2_with fail
            with_reducible refine (same_any _ _ _ _ _ _ _ _ _ HN2.out (fun i _ => dg_lt (by omega) _ _) (fun i _ => dg_lt (by omega) _ _) (hs1.keep hu2).rd hs2.rd).mono ?_
            rw [sameB_true rfl (fun _ _ => rfl)]
            rintro e w3 ⟨rfl, q, rfl⟩
            go_wp2
            go_ret
            exact ⟨rfl, (hu1.trans hu2).drewN q⟩
      · go_enter Try.func8, Try.ntmps8
        go_wp2_with fail
        refine (long_any _ _ _ _).mono ?_
        rw [hd.out]
        rintro e w1 ⟨rfl, rfl⟩
        go_wp2
        all_goals
          go_ret
          exact ⟨rfl, .refl _ _⟩
end Go.Proofs.Ytchgachankcfiaa
