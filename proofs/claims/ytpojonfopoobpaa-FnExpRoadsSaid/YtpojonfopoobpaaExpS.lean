/-
  Contract: ExpShortVarTime.
-/
import Derived.Test.YtpojonfopoobpaaMulI
namespace Go.Proofs.Ytpojonfopoobpaa
open Go.RowKit

set_option maxHeartbeats 400000 in
theorem bitsLen_any (n : Nat) (w : World) (hn : n < 18446744073709551616) :
    Calls Try.prog 101 #[.int .u64 n] w fun e w' => e = .returned (.int .i64 (blen n)) ∧ w = w' := by
  go_enter Try.func101, Try.ntmps101
  go_wp2_with fail
  with_reducible refine (len64_any n w hn).mono ?_
  rintro e w' ⟨rfl, rfl⟩
  go_wp2_with fail
  go_ret
  exact ⟨rfl, rfl⟩
set_option maxRecDepth 100000 in
set_option maxHeartbeats 4000000 in
theorem expShort_any {p b c m Z px bx cx n X s mp M E : Nat} {w : World} (hx0 : NatAt w p b c m Z) (hx : NatAt w px bx cx n X) (hm : ModAt w s mp n M) (ho : M % 2 = 1) (hX : X < M) (hp : s ≤ p) (hb : s ≤ b) (hE1 : 1 ≤ E) (hE : E < 18446744073709551616) :
    Calls Try.prog 62 #[.pointer (some ⟨p, 0, none⟩), .pointer (some ⟨px, 0, none⟩), .int .u64 E, .pointer (some ⟨mp, 0, none⟩)] w fun e w' => e = .returned (.pointer (some ⟨p, 0, none⟩)) ∧ Grown w p b n (X ^ E % M) w' := by
  have hodd := hm.odd
  rw [show decide (M % 2 = 1) = true from decide_eq_true ho] at hodd
  have HO := Lib.hid ho
  have hms := hm.hs
  have hmp := hm.hp
  have hlp := hx0.hp
  have hlb := hx0.hb
  have hlx := hx.hp
  have hlbx := hx.hb
  have hbl : blen E ≤ 64 := (blen_le_iff 64 E).2 hE
  have hbp : 0 < blen E := blen_pos (by omega)
  have HT : Hid (E / 2 ^ (blen E - 1) = 1) := by
    show _ = _
    have h1 := two_pow_le_of_blen (n := E) (k := blen E - 1) (by omega)
    have h2 := lt_two_pow_blen E
    obtain ⟨j, hj⟩ : ∃ j, blen E = j + 1 := ⟨blen E - 1, by omega⟩
    rw [hj, Nat.pow_succ] at h2
    rw [hj, Nat.add_sub_cancel] at h1 ⊢
    rw [Nat.div_eq_iff (Nat.pow_pos (by omega))]
    omega
  obtain ⟨L, HL⟩ : ∃ L, Hid (L = blen E) := ⟨_, rfl⟩
  rw [← HL.out] at HT hbl hbp
  have kl := fun w => bitsLen_any E w hE
  rw [← HL.out] at kl
  replace kl := Lib.hid kl
  clear ho
  go_enter Try.func62, Try.ntmps62
  go_wp2_with fail
  obtain ⟨p1, Hp1⟩ : ∃ p1, Hid (p1 = w.heap.size + 1) := ⟨_, rfl⟩
  obtain ⟨b1, Hb1⟩ : ∃ b1, Hid (b1 = w.heap.size) := ⟨_, rfl⟩
  have hp1a := Nat.le_of_eq Hp1.out
  have hp1b := Nat.le_of_eq Hp1.out.symm
  have hb1a := Nat.le_of_eq Hb1.out
  have hb1b := Nat.le_of_eq Hb1.out.symm
  with_reducible refine (newNat_at w p1 b1 Hp1.out Hb1.out).mono ?_
  rintro e w1 ⟨rfl, hx1, hu1, hz1⟩
  replace hz1 := Nat.le_of_eq hz1.out.symm
  have k2 := Lib.hid (set_any p1 b1 32 0 0 px bx cx n X w1 hx1 (hx.keep0 hu1) (by omega) (by omega) (by omega) (by omega))
  go_wp2_with fail
  with_reducible refine k2.out.mono ?_
  rintro e w2 ⟨rfl, b2, c2, hx2, hb2, hu2⟩
  replace hb2 : b2 = b1 ∨ w1.heap.size ≤ b2 := hb2
  have hu02 : Upd0 w w2 := hu1.then hu2 (fun i hi h => by omega)
  have hz2 := hu2.size
  have k3 := Lib.hid (montRep_any hx2 (hm.keep0 hu02) HO.out hX (by omega) (by omega))
  go_wp2_with fail
  with_reducible refine k3.out.mono ?_
  rintro e w3 ⟨rfl, b3, c3, hx3, hb3, hu3⟩
  replace hb3 : b3 = b2 ∨ w2.heap.size ≤ b3 := hb3
  have hu03 : Upd0 w w3 := hu02.then hu3 (fun i hi h => by omega)
  have hz3 := hu3.size
  have hl3 := hx3.hb
  have k4 := Lib.hid (set_any p b c m Z p1 b3 c3 n _ w3 (hx0.keep0 hu03) hx3 (by omega) (by omega) (by omega) (by omega))
  go_wp2_with fail
  with_reducible refine k4.out.mono ?_
  rintro e w4 ⟨rfl, b4, c4, hx4, hb4, hu4⟩
  replace hb4 : b4 = b ∨ w3.heap.size ≤ b4 := hb4
  have hu04 : Upd (fun k => k = p ∨ k = b) w w4 := (Upd.mono (T := fun k => k = p ∨ k = b) hu03 (fun _ _ h => h.elim)).trans hu4
  have hx34 := hx3.keep hu4 (by omega) (by omega)
  have hl4 := hx4.hb
  go_wp2_with fail
  with_reducible refine (kl.out _).mono ?_
  rintro e w' ⟨rfl, rfl⟩
  have HX1 : Hid (X * W64 ^ n % M = X ^ (E / 2 ^ (L - 1)) * W64 ^ n % M) := by show _ = _; rw [HT.out, Nat.pow_one]
  have hx5 := hx4
  rw [HX1.out] at hx5
  have hb34 : b3 ≠ b4 ∧ p1 ≠ b4 ∧ p1 ≠ p ∧ b3 ≠ p := by omega
  have hsb4 : s ≤ b4 := by omega
  have hb4w : b4 = b ∨ w.heap.size ≤ b4 := by omega
  go_wp2_with fail
  clear hx4 hx3 hx2 hx1 hu1 hu2 hu3 hu02 hu03 hu4 k2 k3 k4 HX1 HT
  go_loopw [10] (fun i wr => ∃ t q bo co : Nat, t + 1 ≤ L ∧ q + t = 64 ∧ i = .int .i64 (q : Nat) ∧ NatAt wr p bo co n (X ^ (E / 2 ^ t) * W64 ^ n % M) ∧ NatAt wr p1 b3 c3 n (X * W64 ^ n % M) ∧ b3 ≠ bo ∧ p1 ≠ bo ∧ s ≤ bo ∧ (bo = b ∨ w.heap.size ≤ bo) ∧ Upd (fun k => k = p ∨ k = b) w wr) (fun i _ => (64 - intOf i).toNat)
  case atStart => exact ⟨L - 1, 65 - L, b4, c4, by omega, by omega, by congr 1 <;> omega, hx5, hx34, hb34.1, hb34.2.1, hsb4, hb4w, hu04⟩
  case round =>
    clear hx5 hx34 hu04
    obtain ⟨t, qi, bo, co, ht, hqi, rfl, hxo, hxR, n1, n2, hsb, hbw, hu⟩ := hrel
    have hmr := hm.keep hu (fun k hk h => by omega)
    rcases Nat.eq_zero_or_pos t with h0 | h0
    · subst h0
      obtain rfl : qi = 64 := by omega
      rw [Nat.pow_zero, Nat.div_one] at hxo
      have k5 := Lib.hid (montRed_any hxo hmr HO.out hp hsb)
      go_wp2_with fail
      with_reducible refine k5.out.mono ?_
      rintro e w5 ⟨rfl, b5, c5, hx5, hb5, hu5⟩
      replace hb5 : b5 = bo ∨ _ ≤ b5 := hb5
      have hz5 := hu.size
      go_wp2_with fail
      go_ret
      exact ⟨rfl, b5, c5, hx5, by show _ ∨ _; omega, hu.then hu5 (fun i hi h => by omega)⟩
    · obtain ⟨u, rfl⟩ : ∃ u, t = u + 1 := ⟨t - 1, by omega⟩
      obtain ⟨D, HD⟩ : ∃ D, Hid (D = E / 2 ^ u) := ⟨_, rfl⟩
      have HB : Hid (D = 2 * (E / 2 ^ (u + 1)) + D % 2) := by show _ = _; rw [HD.out]; exact half_bit _ _
      have k5 := montMM hxo hxo hxo hmr HO.out hp hsb
      rw [← Nat.pow_add, ← Nat.two_mul] at k5
      replace k5 := Lib.hid k5
      have i0 : (qi : Int) < 64 := by omega
      go_wp2_with fail
      with_reducible refine k5.out.mono ?_
      rintro e w5 ⟨rfl, b5, c5, hx5, hb5, hu5⟩
      replace hb5 : b5 = bo ∨ _ ≤ b5 := hb5
      have hz5 := hu.size
      have hz6 := hu5.size
      have hl5 := hxR.hb
      have hl6 := hxR.hp
      have hxR5 := hxR.keep hu5 (by omega) (by omega)
      have hu05 : Upd (fun k => k = p ∨ k = b) w w5 := hu.then hu5 (fun i hi h => by omega)
      have m1 : b3 ≠ b5 ∧ p1 ≠ b5 ∧ s ≤ b5 ∧ (b5 = b ∨ w.heap.size ≤ b5) := by omega
      have hmr5 := hm.keep hu05 (fun k hk h => by omega)
      have e1 : (E : Int) / 2 ^ u = (D : Int) := by rw [HD.out]; simp
      have e2 := and_one D
      have e3 : (64 : Int) - (qi : Int) - 1 = (u : Int) := by omega
      rcases Nat.mod_two_eq_zero_or_one D with hb2 | hb2
      · rw [hb2] at e2
        have HV : Hid (2 * (E / 2 ^ (u + 1)) = E / 2 ^ u) := by show _ = _; have h1 := HB.out; have h2 := HD.out; omega
        rw [HV.out] at hx5
        clear hb2
        go_wp2_with fail
        go_roundw
        case rel => exact ⟨u, qi + 1, b5, c5, by omega, by omega, by go_num, hx5, hxR5, m1.1, m1.2.1, m1.2.2.1, m1.2.2.2, hu05⟩
        case measure => simp [intOf]; omega
      · rw [hb2] at e2
        have HV : Hid (2 * (E / 2 ^ (u + 1)) + 1 = E / 2 ^ u) := by show _ = _; have h1 := HB.out; have h2 := HD.out; omega
        have k6 := montMM (x := X ^ (2 * (E / 2 ^ (u + 1)))) (y := X) hx5 hx5 hxR5 hmr5 HO.out hp m1.2.2.1
        rw [show X ^ (2 * (E / 2 ^ (u + 1))) * X = X ^ (E / 2 ^ u) by rw [← HV.out]; exact (Nat.pow_succ ..).symm] at k6
        replace k6 := Lib.hid k6
        clear hb2
        go_wp2_with fail
        with_reducible refine k6.out.mono ?_
        rintro e w6 ⟨rfl, b6, c6, hx6, hb6, hu6⟩
        replace hb6 : b6 = b5 ∨ _ ≤ b6 := hb6
        have hz7 := hu6.size
        have hl7 := hxR5.hb
        have hl8 := hxR5.hp
        have hxR6 := hxR5.keep hu6 (by omega) (by omega)
        have hu06 : Upd (fun k => k = p ∨ k = b) w w6 := hu05.then hu6 (fun i hi h => by omega)
        clear e1 e2 e3
        go_wp2_with fail
        go_roundw
        case rel => exact ⟨u, qi + 1, b6, c6, by omega, by omega, by go_num, hx6, hxR6, by omega, by omega, by omega, by omega, hu06⟩
        case measure => simp [intOf]; omega
end Go.Proofs.Ytpojonfopoobpaa
