/-
  Contract of zzDiv (math/bits.Div written out), and of DivShortVarTime.
  Contract of DivShortVarTime.
-/
import Derived.Test.YtpojonfopoobpaaNatF
import Derived.Test.YtpojonfopoobpaaPlain
import Derived.Test.YtpojonfopoobpaaNatD
import Derived.Deep.DeepCutAuto
import Derived.Deep.CutBlock
import Derived.Deep.RegionWith
import Derived.Deep.RegionHeld3
namespace Go.Proofs.Ytpojonfopoobpaa
open Go.RowKit

set_option maxRecDepth 100000 in
set_option maxHeartbeats 1000000 in
theorem zzDiv_zero (lo y : Nat) (w : World) (hy : y < 18446744073709551616) (hlo : lo < 18446744073709551616) (h : 0 < y) :
    Calls Try.prog 121 #[.int .u64 0, .int .u64 lo, .int .u64 y] w fun e w' => e = .returned (.tuple #[.int .u64 ((lo / y : Nat) : Int), .int .u64 ((lo % y : Nat) : Int)]) ∧ ∃ k, w' = w.drewN k := by
  have q1 : ((y : Int) == 0) = false := by rw [beq_eq_false_iff_ne]; omega
  have q2 : decide ((y : Int) ≤ 0) = false := by simp; omega
  have q3 : ¬ (y : Int) = 0 := by omega
  have e1 := IntWalk.u64_quo (lo : Int) (y : Int) (by omega)
  have e2 := IntWalk.rem_in (lo : Int) (y : Int) (by omega)
  have e3 : IntKind.u64.wrap ((lo : Int) / (y : Int)) = (lo : Int) / (y : Int) := by
    have h1 : ((lo / y : Nat) : Int) = (lo : Int) / (y : Int) := by simp
    have h2 := Nat.div_le_self lo y
    rw [← h1]
    generalize lo / y = q at h2 ⊢
    exact IntWalk.u64_in _ (by omega)
  have HD : Hid (((lo / y : Nat) : Int) = (lo : Int) / (y : Int)) := by show _ = _; simp
  have HM : Hid (((lo % y : Nat) : Int) = (lo : Int) % (y : Int)) := by show _ = _; simp
  go_enter Try.func121, Try.ntmps121
  go_wp2_with fail
  go_quiet (fail)
  go_wp2_with fail
  go_ret2
  exact ⟨by rw [HD.out, HM.out]; rfl, _, rfl⟩

/-- The mask of the lower half of a limb. -/
theorem bits_low (x : Nat) : bits .and .u64 (x : Int) 4294967295 = ((x % 4294967296 : Nat) : Int) := by
  rw [show (4294967295 : Int) = ((4294967295 : Nat) : Int) from rfl, bits_and]
  congr 1
  unfold andW
  rw [show (4294967295 : Nat) = 2 ^ 32 - 1 from rfl, Nat.and_two_pow_sub_one_eq_mod]
  exact Nat.mod_eq_of_lt (by unfold W64; omega)

/-- What is left, as the code reckons it. -/
theorem k_eqs (Y u u1 : Nat) (hp : 0 < Y) (hY : Y < 18446744073709551616) :
    ∃ A B C : Nat, IntKind.u64.wrap ((u : Int) * 4294967296) = (A : Int) ∧ IntKind.u64.wrap ((A : Int) + (u1 : Int)) = (B : Int) ∧ IntKind.u64.wrap ((kq Y u u1 : Nat) * (Y : Int)) = (C : Int) ∧ IntKind.u64.wrap ((B : Int) - (C : Int)) = ((kr Y u u1 : Nat) : Int) := by
  refine ⟨mulW u 4294967296, addW (mulW u 4294967296) u1, mulW (kq Y u u1) Y, ?_, wrap_add _ _, wrap_mul _ _, ?_⟩
  · exact wrap_mul u 4294967296
  · rw [wrap_sub]
    congr 1
    exact k_rest hp (by omega)
theorem k_start_eqs {Y u u1 v1 v0 : Nat} (hY : Y = v1 * 4294967296 + v0) (hY2 : Y < 18446744073709551616) (h1 : 2147483648 ≤ v1) (h0 : v0 < 4294967296) (hv : v1 < 4294967296) (hu : u < Y) (hu1 : u1 < 4294967296) :
    ∃ q0 p0 : Nat, IntKind.u64.wrap ((u : Int) / (v1 : Int)) = (q0 : Int) ∧ IntKind.u64.wrap ((q0 : Int) * (v1 : Int)) = (p0 : Int) ∧ q0 ≤ 4294967297 ∧ p0 ≤ u ∧ u - p0 < 4294967296 ∧ Hid (q0 * v1 + (u - p0) = u) ∧ Hid (kq Y u u1 ≤ q0) := by
  obtain ⟨q0, hq0⟩ : ∃ q0, q0 = u / v1 := ⟨_, rfl⟩
  obtain ⟨hk1, bq0⟩ := k_start hY h1 h0 hu hu1
  rw [← hq0] at hk1 bq0
  obtain ⟨p0, hp0⟩ : ∃ p0, p0 = q0 * v1 := ⟨_, rfl⟩
  have hpu := Nat.div_add_mod u v1
  have hpm := Nat.mod_lt u (show 0 < v1 by omega)
  rw [← hq0, Nat.mul_comm, ← hp0] at hpu
  refine ⟨q0, p0, ?_, ?_, bq0, by omega, by omega, ?_, hk1⟩
  · rw [show (u : Int) / (v1 : Int) = ((u / v1 : Nat) : Int) from by simp, ← hq0]
    exact IntWalk.u64_in _ (by omega)
  · rw [show (q0 : Int) * (v1 : Int) = ((q0 * v1 : Nat) : Int) from by simp, ← hp0]
    exact IntWalk.u64_in _ (by omega)
  · show _ = _; rw [← hp0]; omega
theorem small_mul {q v0 : Nat} (hq : q < 4294967296) (hv : v0 < 4294967296) : ∃ P : Nat, IntKind.u64.wrap ((q : Int) * (v0 : Int)) = (P : Int) ∧ P < 18446744073709551616 ∧ Hid (P = q * v0) := by
  have h1 : q * v0 < 18446744073709551616 := by
    have := Nat.mul_le_mul (show q ≤ 4294967295 by omega) (show v0 ≤ 4294967295 by omega)
    omega
  refine ⟨q * v0, ?_, h1, rfl⟩
  rw [show (q : Int) * (v0 : Int) = ((q * v0 : Nat) : Int) from by simp]
  generalize q * v0 = P at h1
  exact IntWalk.u64_in _ (by omega)

set_option maxRecDepth 100000 in
set_option maxHeartbeats 4000000 in
theorem zzDiv_pos (hi lo y : Nat) (w : World) (hy : y < 18446744073709551616) (hlo : lo < 18446744073709551616) (h : hi < y) (h0 : 0 < hi) (Q R : Nat) (HQ : Hid (Q = (hi * 18446744073709551616 + lo) / y)) (HR : Hid (R = (hi * 18446744073709551616 + lo) % y)) :
    Calls Try.prog 121 #[.int .u64 hi, .int .u64 lo, .int .u64 y] w fun e w' => e = .returned (.tuple #[.int .u64 (Q : Int), .int .u64 (R : Int)]) ∧ w = w' := by
  obtain ⟨Y, H, ul, hY, hY1, hY2, hH, hu, hlow, hul, hU⟩ := div_prep hy hlo h
  have hb : blen y ≤ 64 := (blen_le_iff 64 y).2 hy
  have hb0 : 0 < blen y := blen_pos (by omega)
  have hlz := lz64_any y w hy
  have HBK : Hid (∀ Q' R', (hi * 18446744073709551616 + lo) * 2 ^ (64 - blen y) / (y * 2 ^ (64 - blen y)) = Q' → (hi * 18446744073709551616 + lo) * 2 ^ (64 - blen y) % (y * 2 ^ (64 - blen y)) = R' → Q' = Q ∧ R' / 2 ^ (64 - blen y) = R) := fun Q' R' h1 h2 => by
    rw [HQ.out, HR.out]; exact div_back h1 h2
  obtain ⟨s, hs⟩ : ∃ s, s = 64 - blen y := ⟨_, rfl⟩
  rw [← hs] at hY hH hu hlow hul hU hlz HBK
  have hs64 : s < 64 := by omega
  clear hb hb0 hs
  obtain ⟨lw, hlw⟩ : ∃ lw, lw = lo / 2 ^ (64 - s) := ⟨_, rfl⟩
  rw [← hlw] at hu hlow hU
  have eY : IntKind.u64.wrap ((y : Int) * 2 ^ s) = (Y : Int) := by
    rw [wrap_shl]; congr 1; unfold shlW; rw [← hY]; exact Nat.mod_eq_of_lt hY2
  have eH : IntKind.u64.wrap ((hi : Int) * 2 ^ s) = (H : Int) := by
    have hHb : H < W64 := by unfold W64; omega
    rw [wrap_shl]; congr 1; unfold shlW; rw [← hH]; exact Nat.mod_eq_of_lt hHb
  have eL : IntKind.u64.wrap ((lo : Int) * 2 ^ s) = (ul : Int) := by
    rw [wrap_shl]; congr 1; unfold shlW; rw [hul]; rfl
  obtain ⟨u, hu'⟩ : ∃ u, u = H + lw := ⟨_, rfl⟩
  have eo : bits .or .u64 (H : Int) ((lo : Int) / 2 ^ (64 - s)) = (u : Int) := by
    rw [show ((lo : Int) / 2 ^ (64 - s)) = ((lo / 2 ^ (64 - s) : Nat) : Int) from by simp, bits_or, ← hlw]
    congr 1
    unfold orW
    have h1 := or_shift (x := lw) (d := hi) (s := s) hlow
    rw [Nat.or_comm, Nat.shiftLeft_eq, ← hH] at h1
    rw [h1, hu', Nat.add_comm]
    exact Nat.mod_eq_of_lt (by unfold W64; omega)
  rw [← hu'] at hu hU
  have hulb : ul < 18446744073709551616 := by rw [hul]; exact Nat.mod_lt _ (by omega)
  rw [← hY] at HBK
  have HU := Lib.hid hU
  have HY := Lib.hid hY
  clear hU hY hH hul hlow hu' hlw
  obtain ⟨v1, hv1⟩ : ∃ v1, v1 = Y / 4294967296 := ⟨_, rfl⟩
  obtain ⟨v0, hv0⟩ : ∃ v0, v0 = Y % 4294967296 := ⟨_, rfl⟩
  obtain ⟨u1, hu1⟩ : ∃ u1, u1 = ul / 4294967296 := ⟨_, rfl⟩
  obtain ⟨u0, hu0⟩ : ∃ u0, u0 = ul % 4294967296 := ⟨_, rfl⟩
  have ev1 : (Y : Int) / 4294967296 = (v1 : Int) := by omega
  have ev0 : bits .and .u64 (Y : Int) 4294967295 = (v0 : Int) := by rw [bits_low, hv0]
  have eu1 : (ul : Int) / 4294967296 = (u1 : Int) := by omega
  have eu0 : bits .and .u64 (ul : Int) 4294967295 = (u0 : Int) := by rw [bits_low, hu0]
  have HYv : Hid (Y = v1 * 4294967296 + v0) := by show _ = _; omega
  have HUl : Hid (ul = u1 * 4294967296 + u0) := by show _ = _; omega
  have bv1 : 2147483648 ≤ v1 := by omega
  have bv1' : v1 < 4294967296 := by omega
  have bv0 : v0 < 4294967296 := by omega
  have bu1 : u1 < 4294967296 := by omega
  have bu0 : u0 < 4294967296 := by omega
  clear hv1 hv0 hu1 hu0
  have t1 : ((y : Int) == 0) = false := by rw [beq_eq_false_iff_ne]; omega
  have t2 : decide ((y : Int) ≤ (hi : Int)) = false := by simp; omega
  have t3 : ((hi : Int) == 0) = false := by rw [beq_eq_false_iff_ne]; omega
  have HLZ := Lib.hid hlz
  clear hlz
  obtain ⟨q0, p0, eq0, em0, bq0, bp0, br0, HS0, HK0⟩ := k_start_eqs HYv.out hY2 bv1 bv0 bv1' hu bu1
  go_enter Try.func121, Try.ntmps121
  go_upto_block 0 with (go_at_call 145; refine HLZ.out.mono ?_; rintro e w' ⟨rfl, rfl⟩)
  clear eY eH eL eo ev1 ev0 eu1 eu0 eq0 em0
  go_cut [15] (fun q wx => q = .int .u64 (kq Y u u1 : Nat) ∧ w = wx)
  case first =>
    go_wp2_with fail
    go_loop [15, 16] (fun q r => ∃ a b : Nat, q = .int .u64 a ∧ r = .int .u64 b ∧ a ≤ 4294967297 ∧ b < 4294967296 ∧ Hid (a * v1 + b = u) ∧ Hid (kq Y u u1 ≤ a)) (fun q _ => (intOf q).toNat)
    case atStart => exact ⟨q0, u - p0, rfl, by congr 1; omega, bq0, br0, HS0, HK0⟩
    case round =>
      obtain ⟨q, r, rfl, rfl, hq, hr, HS, HK⟩ := hrel
      by_cases hA : 4294967296 ≤ q
      · obtain ⟨h1, h2, h3⟩ := k_again HYv.out (by omega) hu bu1 HS.out HK.out (.inl hA)
        have hA' : decide (4294967296 ≤ (q : Int)) = true := by simp; omega
        have HK2 := Lib.hid h2
        have HS2 := Lib.hid h3
        clear h2 h3
        by_cases hB : 4294967296 ≤ r + v1
        · have HE : Hid (q - 1 = kq Y u u1) := k_break HYv.out bv0 (by omega) HS2.out HK2.out (by omega) hB
          have hB' : decide (4294967296 ≤ (r : Int) + (v1 : Int)) = true := by simp; omega
          go_wp2
          go_meet
          exact ⟨by rw [← HE.out]; congr 1; omega, rfl⟩
        · have hB' : decide (4294967296 ≤ (r : Int) + (v1 : Int)) = false := by simp; omega
          go_wp2
          go_round
          case rel => exact ⟨q - 1, r + v1, by congr 1; omega, by go_num, by omega, by omega, HS2, HK2⟩
          case measure => simp [intOf]; omega
      · have hA' : decide (4294967296 ≤ (q : Int)) = false := by simp; omega
        obtain ⟨P, eP, bP, HP⟩ := small_mul (show q < 4294967296 by omega) bv0
        by_cases hC : 4294967296 * r + u1 < P
        · have hC' : decide (4294967296 * (r : Int) + (u1 : Int) < (P : Int)) = true := by simp; omega
          obtain ⟨h1, h2, h3⟩ := k_again HYv.out (by omega) hu bu1 HS.out HK.out (.inr (by rw [← HP.out]; exact hC))
          have HK2 := Lib.hid h2
          have HS2 := Lib.hid h3
          clear h2 h3
          by_cases hB : 4294967296 ≤ r + v1
          · have HE : Hid (q - 1 = kq Y u u1) := k_break HYv.out bv0 (by omega) HS2.out HK2.out (by omega) hB
            have hB' : decide (4294967296 ≤ (r : Int) + (v1 : Int)) = true := by simp; omega
            go_wp2
            go_meet
            exact ⟨by rw [← HE.out]; congr 1; omega, rfl⟩
          · have hB' : decide (4294967296 ≤ (r : Int) + (v1 : Int)) = false := by simp; omega
            go_wp2
            go_round
            case rel => exact ⟨q - 1, r + v1, by congr 1; omega, by go_num, by omega, by omega, HS2, HK2⟩
            case measure => simp [intOf]; omega
        · have hC' : decide (4294967296 * (r : Int) + (u1 : Int) < (P : Int)) = false := by simp; omega
          have HE : Hid (q = kq Y u u1) := k_done HYv.out (by omega) HS.out HK.out (by rw [← HP.out]; omega)
          go_wp2
          go_meet
          exact ⟨by rw [← HE.out], rfl⟩
  case rest =>
    obtain ⟨rfl, rfl⟩ := hcut
    clear HS0 HK0 bq0 bp0 br0
    obtain ⟨A, B, C, eA, eB, eC, eD⟩ := k_eqs Y u u1 (by omega) hY2
    have bk : kq Y u u1 < 4294967296 := kq_lt hu bu1
    obtain ⟨q1, Hq1⟩ : ∃ q1, Hid (q1 = kq Y u u1) := ⟨_, rfl⟩
    obtain ⟨un, Hun⟩ : ∃ un, Hid (un = kr Y u u1) := ⟨_, rfl⟩
    have bun : un < Y := by rw [Hun.out]; exact Nat.mod_lt _ (by omega)
    rw [← Hq1.out] at eC bk ⊢
    rw [← Hun.out] at eD
    obtain ⟨q0, p0, eq0, em0, bq0, bp0, br0, HS0, HK0⟩ := k_start_eqs HYv.out hY2 bv1 bv0 bv1' bun bu0
    go_upto_block 2 with (fail)
    clear eA eB eC eD eq0 em0
    go_cut [18] (fun q wx => q = .int .u64 (kq Y un u0 : Nat) ∧ w = wx)
    case first =>
      go_wp2_with fail
      go_loop [18, 16] (fun q r => ∃ a b : Nat, q = .int .u64 a ∧ r = .int .u64 b ∧ a ≤ 4294967297 ∧ b < 4294967296 ∧ Hid (a * v1 + b = un) ∧ Hid (kq Y un u0 ≤ a)) (fun q _ => (intOf q).toNat)
      case atStart => exact ⟨q0, un - p0, rfl, by congr 1; omega, bq0, br0, HS0, HK0⟩
      case round =>
        obtain ⟨q, r, rfl, rfl, hq, hr, HS, HK⟩ := hrel
        by_cases hA : 4294967296 ≤ q
        · obtain ⟨h1, h2, h3⟩ := k_again HYv.out (by omega) bun bu0 HS.out HK.out (.inl hA)
          have hA' : decide (4294967296 ≤ (q : Int)) = true := by simp; omega
          have HK2 := Lib.hid h2
          have HS2 := Lib.hid h3
          clear h2 h3
          by_cases hB : 4294967296 ≤ r + v1
          · have HE : Hid (q - 1 = kq Y un u0) := k_break HYv.out bv0 (by omega) HS2.out HK2.out (by omega) hB
            have hB' : decide (4294967296 ≤ (r : Int) + (v1 : Int)) = true := by simp; omega
            go_wp2
            go_meet
            exact ⟨by rw [← HE.out]; congr 1; omega, rfl⟩
          · have hB' : decide (4294967296 ≤ (r : Int) + (v1 : Int)) = false := by simp; omega
            go_wp2
            go_round
            case rel => exact ⟨q - 1, r + v1, by congr 1; omega, by go_num, by omega, by omega, HS2, HK2⟩
            case measure => simp [intOf]; omega
        · have hA' : decide (4294967296 ≤ (q : Int)) = false := by simp; omega
          obtain ⟨P, eP, bP, HP⟩ := small_mul (show q < 4294967296 by omega) bv0
          by_cases hC : 4294967296 * r + u0 < P
          · have hC' : decide (4294967296 * (r : Int) + (u0 : Int) < (P : Int)) = true := by simp; omega
            obtain ⟨h1, h2, h3⟩ := k_again HYv.out (by omega) bun bu0 HS.out HK.out (.inr (by rw [← HP.out]; exact hC))
            have HK2 := Lib.hid h2
            have HS2 := Lib.hid h3
            clear h2 h3
            by_cases hB : 4294967296 ≤ r + v1
            · have HE : Hid (q - 1 = kq Y un u0) := k_break HYv.out bv0 (by omega) HS2.out HK2.out (by omega) hB
              have hB' : decide (4294967296 ≤ (r : Int) + (v1 : Int)) = true := by simp; omega
              go_wp2
              go_meet
              exact ⟨by rw [← HE.out]; congr 1; omega, rfl⟩
            · have hB' : decide (4294967296 ≤ (r : Int) + (v1 : Int)) = false := by simp; omega
              go_wp2
              go_round
              case rel => exact ⟨q - 1, r + v1, by congr 1; omega, by go_num, by omega, by omega, HS2, HK2⟩
              case measure => simp [intOf]; omega
          · have hC' : decide (4294967296 * (r : Int) + (u0 : Int) < (P : Int)) = false := by simp; omega
            have HE : Hid (q = kq Y un u0) := k_done HYv.out (by omega) HS.out HK.out (by rw [← HP.out]; omega)
            go_wp2
            go_meet
            exact ⟨by rw [← HE.out], rfl⟩
    case rest =>
      obtain ⟨rfl, rfl⟩ := hcut
      clear HS0 HK0 bq0 bp0 br0
      obtain ⟨A', B', C', eA', eB', eC', eD'⟩ := k_eqs Y un u0 (by omega) hY2
      have bk' : kq Y un u0 < 4294967296 := kq_lt bun bu0
      have HALL : Hid (q1 * 4294967296 + kq Y un u0 = Q ∧ kr Y un u0 / 2 ^ s = R) := by
        have h1 := k_all (Y := Y) (u := u) (u1 := u1) (u0 := u0) (by omega)
        rw [← HUl.out, ← HU.out, ← Hq1.out, ← Hun.out] at h1
        exact HBK.out _ _ h1.1 h1.2
      obtain ⟨q2, Hq2⟩ : ∃ q2, Hid (q2 = kq Y un u0) := ⟨_, rfl⟩
      obtain ⟨r2, Hr2⟩ : ∃ r2, Hid (r2 = kr Y un u0) := ⟨_, rfl⟩
      have br2 : r2 < 18446744073709551616 := by
        have h2 : kr Y un u0 < Y := Nat.mod_lt _ (by omega)
        rw [Hr2.out]; omega
      rw [← Hq2.out] at eC' bk' HALL ⊢
      rw [← Hr2.out] at eD' HALL
      have eR : ((r2 : Int) / 2 ^ s) = (R : Int) := by
        rw [← HALL.out.2]; simp
      have HQ2 : Hid (q1 * 4294967296 + q2 = Q) := HALL.out.1
      clear HALL
      go_wp2
      go_ret2
      exact ⟨by rw [← HQ2.out]; simp, rfl⟩
end Go.Proofs.Ytpojonfopoobpaa

namespace Go.Proofs.Ytpojonfopoobpaa
open Go.RowKit

theorem zzDiv_any (hi lo y : Nat) (w : World) (hy : y < 18446744073709551616) (hlo : lo < 18446744073709551616) (h : hi < y) (Q R : Nat) (HQ : Hid (Q = (hi * 18446744073709551616 + lo) / y)) (HR : Hid (R = (hi * 18446744073709551616 + lo) % y)) :
    Calls Try.prog 121 #[.int .u64 hi, .int .u64 lo, .int .u64 y] w fun e w' => e = .returned (.tuple #[.int .u64 (Q : Int), .int .u64 (R : Int)]) ∧ ∃ k, w' = w.drewN k := by
  rcases Nat.eq_zero_or_pos hi with h0 | h0
  · subst h0
    refine (zzDiv_zero lo y w hy hlo h).mono ?_
    rw [HQ.out, HR.out, Nat.zero_mul, Nat.zero_add]
    exact fun _ _ h => h
  · exact (zzDiv_pos hi lo y w hy hlo h h0 Q R HQ HR).mono fun e w' ⟨h1, h2⟩ => ⟨h1, 0, by rw [← h2]; rfl⟩

set_option maxRecDepth 100000 in
set_option maxHeartbeats 4000000 in
theorem divShortVT_any (p b c n X y : Nat) (w : World) (hx : NatAt w p b c n X) (hy : y < 18446744073709551616) (hy0 : 0 < y) :
    Calls Try.prog 81 #[.pointer (some ⟨p, 0, none⟩), .int .u64 y] w fun e w' => e = .returned (.int .u64 (X % y : Nat)) ∧ NatAt w' p b c n (X / y) ∧ Upd (fun k => k = b) w w' := by
  have hcell := hx.hd
  have hle := hx.le
  have hsm := hx.sm
  have hy1 : ((y : Int) == 0) = false := by rw [beq_eq_false_iff_ne]; omega
  have HX : Hid (X < W64 ^ n) := hx.lt
  go_enter Try.func81, Try.ntmps81
  go_wp2
  go_loopw [5, 6] (fun t i wr => ∃ k r : Nat, k ≤ n ∧ i = .int .i64 ((k : Int) - 1) ∧ t = .int .u64 r ∧ r < y ∧ Hid (r = X / W64 ^ k % y) ∧ Wrote w wr b n (fun j => if k ≤ j then dg W64 (X / y) j else dg W64 X j)) (fun _ i _ => (intOf i + 1).toNat)
  case atStart => exact ⟨n, 0, Nat.le_refl _, rfl, rfl, hy0, by show _ = _; rw [Nat.div_eq_of_lt HX.out, Nat.zero_mod], .start (hx.own.congr fun j hj => by rw [if_neg (by omega)])⟩
  case round =>
    obtain ⟨k, r, hk, hi, rfl, hrd, HR, hw⟩ := hrel
    by_cases h0 : k = 0
    · subst h0
      subst hi
      have HE : Hid (r = X % y) := by have := HR.out; show r = X % y; simpa using this
      have hX : NatAt wr p b c n (X / y) := hx.wrote (hw.congr fun j hj => by rw [if_pos (Nat.zero_le _)]) (Nat.lt_of_le_of_lt (Nat.div_le_self _ _) hx.lt)
      have hu := hw.upd
      clear hw
      go_wp2
      go_ret
      exact ⟨by rw [HE.out]; rfl, hX, hu⟩
    · obtain ⟨j, rfl⟩ : ∃ j, k = j + 1 := ⟨k - 1, by omega⟩
      replace hi := hi.trans (show Value.int .i64 (((j + 1 : Nat) : Int) - 1) = .int .i64 (j : Int) by congr 1; omega)
      subst hi
      obtain ⟨d, hc1, hf1, hd, HD⟩ := hw.limb (show j < n by omega) (by rw [if_neg (by omega)]; exact limb_lt _ _)
      have HD : Hid (d = dg W64 X j) := by rw [if_neg (by omega)] at HD; exact HD
      have hcell' := hx.wrote_hd hw
      have HS := dg_quot (b := W64) (N := X) (d := y) (j := j) W64_pos hy0
      rw [← HR.out, ← HD.out] at HS
      obtain ⟨Q, HQ⟩ : ∃ Q, Hid (Q = (r * 18446744073709551616 + d) / y) := ⟨_, rfl⟩
      obtain ⟨R, HRR⟩ : ∃ R, Hid (R = (r * 18446744073709551616 + d) % y) := ⟨_, rfl⟩
      have hcall := fun w => zzDiv_any r d y w hy hd hrd Q R HQ HRR
      have hcall := Lib.hid hcall
      have i1 : (j : Int) < (n : Int) := by omega
      have i2 : (0 : Int) ≤ (j : Int) := by omega
      have i3 : ((j : Int)).toNat = j := by omega
      go_upto_block 1 with fail
      go_cut [5] (fun t wx => t = .int .u64 (R : Int) ∧ ∃ q, wx = (wr.setCell ⟨b, j, none⟩ (.int .u64 (Q : Int))).drewN q)
      case first =>
        clear HR hw HD HS
        go_wp2_with fail
        go_region_with ((go_at_call 121; refine (hcall.out _).mono ?_; rintro e w' ⟨rfl, q, rfl⟩))
        all_goals (go_wp2_with fail; go_meet)
        all_goals (exact ⟨rfl, _, rfl⟩)
      case rest =>
        obtain ⟨rfl, q, rfl⟩ := hcut
        have hw2 := (hw.set (show j < n by omega) Q rfl).drewN q
        generalize (wr.setCell ⟨b, j, none⟩ (.int .u64 (Q : Int))).drewN q = wq at *
        go_wp2
        go_roundw
        case rel => exact ⟨j, R, by omega, rfl, rfl, by rw [HRR.out]; exact Nat.mod_lt _ hy0, by show R = X / W64 ^ j % y; rw [HRR.out, HS.2]; rfl, hw2.congr fun i hi => by
          by_cases e : i = j
          · subst e; rw [if_pos rfl, if_pos (Nat.le_refl _), HQ.out, HS.1]; rfl
          · rw [if_neg e]
            by_cases e2 : j + 1 ≤ i
            · rw [if_pos e2, if_pos (by omega)]
            · rw [if_neg e2, if_neg (by omega)]⟩
        case measure => simp [intOf]
end Go.Proofs.Ytpojonfopoobpaa
