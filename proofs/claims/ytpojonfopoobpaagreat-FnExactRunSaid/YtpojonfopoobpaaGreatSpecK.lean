/-
  Contracts of the reference: power.
-/
import Derived.Test.YtpojonfopoobpaaGreatSpecJ
import Derived.Test.YtpojonfopoobpaaGreatNumB
namespace Go.Proofs.YtpojonfopoobpaaGreat
open Go.RowKit

theorem half_bit' (R t : Nat) : R / 2 ^ t = 2 * (R / 2 ^ (t + 1)) + R / 2 ^ t % 2 := by
  rw [Nat.pow_succ, ← Nat.div_div_eq_div_mul]; omega
theorem sq_pow (X E M : Nat) : X ^ E % M * (X ^ E % M) % M = X ^ (2 * E) % M := by
  rw [← Nat.mul_mod, ← Nat.pow_add, Nat.two_mul]
theorem mul_pow (X E M : Nat) : X ^ E % M * X % M = X ^ (E + 1) % M := by
  rw [Nat.mod_mul_mod, Nat.pow_succ]
/-- The exponent behind t bits of the byte d. -/
def exN (E d t : Nat) : Nat := E * 2 ^ t + d / 2 ^ (8 - t)
theorem exN_zero {E d : Nat} (hd : d < 256) : exN E d 0 = E := by unfold exN; rw [Nat.pow_zero, Nat.mul_one, Nat.div_eq_of_lt (by exact hd), Nat.add_zero]
theorem exN_eight (E d : Nat) : exN E d 8 = E * 256 + d := by unfold exN; rw [Nat.sub_self, Nat.pow_zero, Nat.div_one]
theorem exN_step (E d : Nat) {t : Nat} (ht : t < 8) : exN E d (t + 1) = 2 * exN E d t + d / 2 ^ (7 - t) % 2 := by
  unfold exN
  have h := half_bit' d (7 - t)
  rw [show 7 - t + 1 = 8 - t by omega] at h
  rw [show 8 - (t + 1) = 7 - t by omega, Nat.pow_succ]
  generalize d / 2 ^ (7 - t) = a at *
  generalize d / 2 ^ (8 - t) = b at *
  generalize 2 ^ t = q
  have : E * (q * 2) = 2 * (E * q) := by rw [← Nat.mul_assoc]; omega
  omega
/-- A number of the reference in slot s. -/
def NumIn (w : World) (N : Nat) (s : Value) : Prop := ∃ a c, s = .slice a (nd N) c ∧ Sl .i64 w a (nd N) c (dg 65536 N)
/-- At the head of the outer loop of power. -/
def PwOut (w : World) (X M ne : Nat) (f : Nat → Nat) (k : Nat) (o i : Value) (wr : World) : Prop :=
  ∃ j R, j + k = ne ∧ i = .int .i64 (j : Nat) ∧ R = X ^ be f j % M ∧ NumIn wr R o ∧ Upd0 w wr
/-- At the head of the inner loop. -/
def PwIn (w : World) (X M E d : Nat) (k : Nat) (o b : Value) (wr : World) : Prop :=
  ∃ t R q, t + k = 8 ∧ b = .int .i64 (q : Nat) ∧ q = 128 / 2 ^ t ∧ R = X ^ exN E d t % M ∧ NumIn wr R o ∧ Upd0 w wr
theorem bit_val {t : Nat} (ht : t < 8) : 128 / 2 ^ t = 2 ^ (7 - t) := by
  rcases (show t = 0 ∨ t = 1 ∨ t = 2 ∨ t = 3 ∨ t = 4 ∨ t = 5 ∨ t = 6 ∨ t = 7 by omega) with h | h | h | h | h | h | h | h <;> subst h <;> rfl
theorem bit_no {D z : Nat} (h : z = D % 2) (hz : z = 0) : ((D : Int) % 2 == 1) = false ∧ ((D : Int).tmod 2 == 1) = false := by
  have h1 : (D : Int) % 2 = 0 := by omega
  rw [Int.tmod_eq_emod_of_nonneg (by omega), h1]
  exact ⟨rfl, rfl⟩
theorem bit_yes {D z : Nat} (h : z = D % 2) (hz : z = 1) : ((D : Int) % 2 == 1) = true ∧ ((D : Int).tmod 2 == 1) = true := by
  have h1 : (D : Int) % 2 = 1 := by omega
  rw [Int.tmod_eq_emod_of_nonneg (by omega), h1]
  exact ⟨rfl, rfl⟩
theorem wrap_div {d q D : Nat} (hD : D = d / q) (hd : d < 256) : RowKit.wrap64 ((d : Int) / (q : Int)) = (D : Int) := by
  have h1 : (d : Int) / (q : Int) = (D : Int) := by rw [hD]; simp
  have h2 : D ≤ d := by rw [hD]; exact Nat.div_le_self _ _
  rw [h1]
  exact IntWalk.wrap64_in _ (by omega)
set_option maxRecDepth 100000 in
set_option maxHeartbeats 4000000 in
theorem power_any (ax am ae : Option Addr) (cx cm X M ne ce : Nat) (f : Nat → Nat) (w : World) (hX : nd X ≤ 4000) (hM : nd M ≤ 4000) (h0 : 0 < M) (hne : ne ≤ 100000) (hf : ∀ i, i < ne → f i < 256) (hsx : Sl .i64 w ax (nd X) cx (dg 65536 X)) (hsm : Sl .i64 w am (nd M) cm (dg 65536 M)) (hse : Sl .u8 w ae ne ce f) :
    Calls Tryz.prog 74 #[.slice ax (nd X) cx, .slice ae ne ce, .slice am (nd M) cm] w (RetNum w (X ^ be f ne % M)) := by
  have HF := Lib.hid hf
  have HRn : Hid (∀ z, nd (z % M) ≤ 4000) := fun z => Nat.le_trans (nd_mono (Nat.le_of_lt (Nat.mod_lt z h0))) hM
  clear hf
  go_enter Tryz.func74, Tryz.ntmps74
  go_wp2_with fail
  with_reducible refine (small_one w).mono ?_
  rintro e w1 ⟨a1, c1, rfl, hs1, hu1⟩
  have hn1 : nd 1 ≤ 10000 := by have : nd 1 = 1 := rfl; omega
  have k1 := Lib.hid (quotient_any a1 am c1 cm 1 M w1 hn1 (by omega) h0 hs1 (hsm.keep hu1))
  go_wp2_with fail
  with_reducible refine k1.out.mono ?_
  rintro e w2 ⟨a2, c2, a3, c3, rfl, hs2, hs3, hu2⟩
  have hup := hu1.trans hu2
  clear k1 hs2 hu1 hu2 hs1
  go_wp2_with fail
  go_loopg [8, 9] ne (fun k o i wr => PwOut w X M ne f k o i wr)
  case atStart => exact ⟨0, 1 % M, by omega, rfl, by simp [be], ⟨a3, c3, rfl, hs3⟩, hup⟩
  case round =>
    clear hup hs3
    obtain ⟨j, R, hjk, rfl, hR, ⟨a4, c4, rfl, hs4⟩, hu4⟩ := hrel
    replace hR := Lib.hid hR
    by_cases hlt : j < ne
    · obtain ⟨be', off, d, rfl, hcell, hd, HD⟩ := byte_cell hse.rd HF.out hlt
      go_wp2_with fail
      go_loopg [8, 10] 8 (fun k o b wq => PwIn w X M (be f j) d k o b wq)
      case atStart => exact ⟨0, R, 128, by omega, rfl, rfl, by rw [exN_zero hd]; exact hR.out, ⟨a4, c4, rfl, hs4⟩, hu4⟩
      case round =>
        clear hs4 hu4 hR
        obtain ⟨t, R2, q, htk, rfl, hq, hR2, ⟨a5, c5, rfl, hs5⟩, hu5⟩ := hrel
        replace hq := Lib.hid hq
        replace hR2 := Lib.hid hR2
        by_cases ht : t < 8
        · have hq2 : Hid (q = 2 ^ (7 - t)) := by show _ = _; rw [hq.out, bit_val ht]
          have hq0 : 0 < q := by rw [hq2.out]; exact Nat.pow_pos (by omega)
          have hq3 : q ≤ 128 := by rw [hq.out]; exact Nat.div_le_self _ _
          have hnR : nd R2 ≤ 4000 := by rw [hR2.out]; exact HRn.out _
          have hm2 := nd_mul R2 R2
          go_wp2_with fail
          with_reducible refine (product_any a5 a5 c5 c5 R2 R2 _ (by omega) (by omega) hs5.rd hs5.rd).mono ?_
          rintro e w6 ⟨a6, c6, rfl, hs6, hu6⟩
          have k2 := quotient_any a6 am c6 cm (R2 * R2) M w6 (by omega) (by omega) h0 hs6 ((hsm.keep hu5).keep hu6)
          have HS : Hid (R2 * R2 % M = X ^ (2 * exN (be f j) d t) % M) := by show _ = _; rw [hR2.out, sq_pow]
          obtain ⟨R3, HR3⟩ : ∃ R3, Hid (R3 = R2 * R2 % M) := ⟨_, rfl⟩
          rw [← HR3.out] at k2 HS
          replace k2 := Lib.hid k2
          have hnR3 : nd R3 ≤ 4000 := by rw [HR3.out]; exact HRn.out _
          go_wp2_with fail
          with_reducible refine k2.out.mono ?_
          rintro e w7 ⟨a7, c7, a8, c8, rfl, hs7, hs8, hu7⟩
          have hu8 := (hu5.trans hu6).trans hu7
          have hcell8 := hu8.cell (p := ⟨be', off + j, none⟩) id hcell
          have hqn : (q : Int) ≠ 0 := by omega
          obtain ⟨z, Hz⟩ : ∃ z, Hid (z = d / q % 2) := ⟨_, rfl⟩
          obtain ⟨D, HD2⟩ : ∃ D, Hid (D = d / q) := ⟨_, rfl⟩
          have HzD : Hid (z = D % 2) := by show _ = _; rw [Hz.out, HD2.out]
          have HT : Hid (exN (be f j) d (t + 1) = 2 * exN (be f j) d t + z) := by show _ = _; rw [exN_step _ _ ht, Hz.out, hq2.out]
          have HQ2 : Hid (q / 2 = 128 / 2 ^ (t + 1)) := by show _ = _; rw [hq.out, Nat.pow_succ, Nat.div_div_eq_div_mul]
          have hz2 : z = 0 ∨ z = 1 := by rw [Hz.out]; omega
          clear k2 hs6 hs7
          rcases hz2 with hz2 | hz2
          · subst hz2
            obtain ⟨et, et2⟩ := bit_no HzD.out rfl
            have ew := wrap_div HD2.out hd
            go_wp2_with fail
            clear ew et et2
            go_roundg (8 - (t + 1))
            case measure => omega
            case rel => exact ⟨t + 1, R3, q / 2, by omega, by go_num, HQ2.out, by rw [HS.out, HT.out, Nat.add_zero], ⟨a8, c8, rfl, hs8⟩, hu8⟩
          · subst hz2
            have hm3 := nd_mul R3 X
            have hm4 : nd R3 ≤ 10000 ∧ nd X ≤ 10000 := ⟨by omega, by omega⟩
            obtain ⟨et, et2⟩ := bit_yes HzD.out rfl
            have ew := wrap_div HD2.out hd
            go_wp2_with fail
            clear ew et et2
            with_reducible refine (product_any a8 ax c8 cx R3 X w7 (by omega) (by omega) hs8.rd (hsx.keep hu8).rd).mono ?_
            rintro e w9 ⟨a9, c9, rfl, hs9, hu9⟩
            have k3 := quotient_any a9 am c9 cm (R3 * X) M w9 (by omega) (by omega) h0 hs9 ((hsm.keep hu8).keep hu9)
            have HS3 : Hid (R3 * X % M = X ^ (2 * exN (be f j) d t + 1) % M) := by show _ = _; rw [HS.out, mul_pow]
            obtain ⟨R4, HR4⟩ : ∃ R4, Hid (R4 = R3 * X % M) := ⟨_, rfl⟩
            rw [← HR4.out] at k3 HS3
            replace k3 := Lib.hid k3
            go_wp2_with fail
            with_reducible refine k3.out.mono ?_
            rintro e w10 ⟨a10, c10, a11, c11, rfl, hs10, hs11, hu10⟩
            go_wp2_with fail
            go_roundg (8 - (t + 1))
            case measure => omega
            case rel => exact ⟨t + 1, R4, q / 2, by omega, by go_num, HQ2.out, by rw [HS3.out, HT.out], ⟨a11, c11, rfl, hs11⟩, (hu8.trans hu9).trans hu10⟩
        · obtain rfl : t = 8 := by omega
          obtain rfl : q = 0 := hq.out
          have HN : Hid (R2 = X ^ be f (j + 1) % M) := by
            show _ = _
            rw [hR2.out, exN_eight, HD.out]
            rfl
          go_wp2_with fail
          go_roundg (ne - (j + 1))
          case measure => omega
          case rel => exact ⟨j + 1, R2, by omega, by go_num, HN.out, ⟨a5, c5, rfl, hs5⟩, hu5⟩
    · obtain rfl : j = ne := by omega
      go_wp2_with fail
      go_ret
      exact ⟨a4, c4, by rw [← hR.out]; rfl, by rw [← hR.out]; exact hs4, hu4⟩
end Go.Proofs.YtpojonfopoobpaaGreat
