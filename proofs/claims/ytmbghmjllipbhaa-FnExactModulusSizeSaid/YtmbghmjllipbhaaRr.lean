/-
  Contracts: Modulus.BitLen, rr.
-/
import Derived.Test.YtmbghmjllipbhaaMontB
import Derived.Test.YtmbghmjllipbhaaNumB
namespace Go.Proofs.Ytmbghmjllipbhaa
open Go.RowKit

set_option maxHeartbeats 400000 in
theorem modBitLen_any (mp q b c n M : Nat) (w : World) (hm : MNat w mp q b c n M) :
    Calls Try.prog 89 #[.pointer (some ⟨mp, 0, none⟩)] w fun e w' => e = .returned (.int .i64 (blen M)) ∧ w = w' := by
  have h1 := hm.hm
  have k1 := Lib.hid (bitLenVT_any q b c n M w hm.nat)
  go_enter Try.func89, Try.ntmps89
  go_wp2_with fail
  with_reducible refine k1.out.mono ?_
  rintro e w' ⟨rfl, rfl⟩
  go_wp2_with fail
  go_ret
  exact ⟨rfl, rfl⟩
/-- The top limb of a number 0 is set. -/
theorem NatAt.setTop {w : World} {p b c n : Nat} (hx : NatAt w p b c n 0) (hn : 0 < n) (d : Nat) (hd : d < 18446744073709551616) {z : Int} (hz : z = (d : Nat)) : NatAt (w.setCell ⟨b, n - 1, none⟩ (.int .u64 z)) p b c n (d * W64 ^ (n - 1)) := by
  subst hz
  have hp : 0 < W64 ^ (n - 1) := Nat.pow_pos W64_pos
  have hw := (Wrote.start hx.own).set (show n - 1 < n by omega) d rfl
  refine hx.wrote (hw.congr fun i hi => ?_) ?_
  · by_cases e : i = n - 1
    · subst e
      rw [if_pos rfl]
      unfold dg
      rw [Nat.mul_div_cancel _ hp, Nat.mod_eq_of_lt (by unfold W64; omega)]
    · rw [if_neg e, dg_of_lt (Nat.pow_pos W64_pos)]
      unfold dg
      obtain ⟨t, ht⟩ : ∃ t, n - 1 = i + (t + 1) := ⟨n - 1 - i - 1, by omega⟩
      rw [ht, Nat.pow_add, Nat.pow_succ, ← Nat.mul_assoc, Nat.mul_comm d, Nat.mul_assoc, Nat.mul_div_cancel_left _ (Nat.pow_pos W64_pos), ← Nat.mul_assoc, Nat.mul_mod_left]
  · obtain ⟨k, rfl⟩ : ∃ k, n = k + 1 := ⟨n - 1, by omega⟩
    rw [Nat.add_sub_cancel, Nat.pow_succ, Nat.mul_comm]
    rw [Nat.add_sub_cancel] at hp
    exact (Nat.mul_lt_mul_left hp).2 hd
theorem dbl2 {M e : Nat} (hM : 0 < M) : redN (2 ^ e % M + 2 ^ e % M) M = 2 ^ (e + 1) % M := by
  have := dbl_mod 1 e hM
  rwa [Nat.one_mul, Nat.one_mul] at this
theorem sq_mont {n k M e : Nat} (hk : (k * M + 1) % W64 = 0) (ho : M % 2 = 1) (hM : M < W64 ^ n) : mmN n k (W64 ^ n * 2 ^ e % M) (W64 ^ n * 2 ^ e % M) M = W64 ^ n * 2 ^ (2 * e) % M := by
  have hp : 0 < M := by omega
  have h1 := Nat.mod_lt (W64 ^ n * 2 ^ e) hp
  have h2 : W64 ^ n * 2 ^ e % M % M = 2 ^ e * W64 ^ n % M := by rw [Nat.mod_mod, Nat.mul_comm]
  rw [mmN_mont (a := 2 ^ e) (b := 2 ^ e) hk ho h1 (by omega) h2 h2, ← Nat.pow_add, Nat.two_mul, Nat.mul_comm]
theorem half_bit (R t : Nat) : R / 2 ^ t = 2 * (R / 2 ^ (t + 1)) + R / 2 ^ t % 2 := by
  rw [Nat.pow_succ, ← Nat.div_div_eq_div_mul]; omega

theorem wrap_two {s : Nat} (hs : s < 64) : IntKind.u64.wrap (2 ^ s) = ((2 ^ s : Nat) : Int) := by
  have h : 2 ^ s ≤ 2 ^ 63 := Nat.pow_le_pow_right (by omega) (by omega)
  rw [show ((2 : Int) ^ s) = ((2 ^ s : Nat) : Int) by simp]
  generalize 2 ^ s = m at *
  exact IntWalk.u64_in _ (by omega)
theorem shr_nat (n t : Nat) : (64 * (n : Int)) / 2 ^ t = ((64 * n / 2 ^ t : Nat) : Int) := by simp
/-- A new number of n limbs is returned. -/
def RetFresh (w : World) (n X : Nat) (e : Ending) (w' : World) : Prop :=
  ∃ p b c, e = .returned (.pointer (some ⟨p, 0, none⟩)) ∧ NatAt w' p b c n X ∧ w.heap.size ≤ p ∧ w.heap.size ≤ b ∧ Upd0 w w'

set_option maxRecDepth 100000 in
set_option maxHeartbeats 8000000 in
theorem rr_any (mp q bm cm n M k : Nat) (w : World) (hm : MNat w mp q bm cm n M) (hkc : w.cell? ⟨mp, 2, none⟩ = some (.int .u64 k)) (hk : (k * M + 1) % W64 = 0) (ho : M % 2 = 1) (h1 : 1 < M) (hn : n = nl M) (hn2 : n ≤ 16384) :
    Calls Try.prog 159 #[.pointer (some ⟨mp, 0, none⟩)] w (RetFresh w n (W64 ^ n * W64 ^ n % M)) := by
  have hlm := hm.hp
  have hlq := hm.nat.hp
  have hlb := hm.nat.hb
  obtain ⟨L, HL⟩ : ∃ L, Hid (L = blen M) := ⟨_, rfl⟩
  have hL0 : 0 < L := by rw [HL.out]; exact blen_pos (by omega)
  have hL1 : L ≤ 64 * n := by rw [HL.out, hn]; unfold nl; omega
  have hL2 : 64 * n < L + 64 := by rw [HL.out, hn]; unfold nl; omega
  have hn0 : 0 < n := by omega
  have HT : Hid (2 ^ (L - 1) < M) := by rw [HL.out]; exact top_lt ho h1
  have HK := Lib.hid hk
  have HO := Lib.hid ho
  have HM : Hid (M < W64 ^ n) := hm.nat.lt
  have hbl := fun w hm => modBitLen_any mp q bm cm n M w hm
  rw [← HL.out] at hbl
  replace hbl := Lib.hid hbl
  clear hk ho hn
  go_enter Try.func159, Try.ntmps159
  go_wp2_with fail
  with_reducible refine (newNat_any w).mono ?_
  rintro e w1 ⟨rfl, hx1, hu1, hz1⟩
  replace hz1 : w.heap.size + 2 ≤ w1.heap.size := by omega
  go_wp2_with fail
  with_reducible refine (expandFor_any (w.heap.size + 1) w.heap.size 32 0 0 mp q bm cm n M w1 hx1 (hm.keep0 hu1) (Nat.zero_le _)).mono ?_
  rintro e w2 ⟨rfl, b, c, hx2, hb2, hu2⟩
  obtain ⟨p, Hp⟩ : ∃ p, Hid (p = w.heap.size + 1) := ⟨_, rfl⟩
  rw [← Hp.out] at hx2 ⊢
  have hp : w.heap.size ≤ p := by rw [Hp.out]; omega
  have hb : w.heap.size ≤ b := by rcases hb2 with h | h <;> omega
  have hu : Upd0 w w2 := hu1.then hu2 (fun i hi h => by omega)
  clear hx1 hu1 hz1 hb2 hu2 Hp
  have hcx := hx2.hd
  have hcx1 := hx2.own.cell (n - 1) (by omega)
  have hcx2 := hx2.own.free (n - 1) (by omega)
  have k2 := Lib.hid (hbl.out w2 (hm.keep0 hu))
  go_wp2_with fail
  with_reducible refine k2.out.mono ?_
  rintro e w' ⟨rfl, rfl⟩
  obtain ⟨s, Hs⟩ : ∃ s, Hid (s = (L - 1) % 64) := ⟨_, rfl⟩
  have hs64 : s < 64 := by rw [Hs.out]; omega
  have j1 : (n : Int) - 1 < (n : Int) := by omega
  have j2 : (0 : Int) ≤ (n : Int) - 1 := by omega
  have j2' : (1 : Int) ≤ (n : Int) := by omega
  have j3 : ((n : Int) - 1).toNat = n - 1 := by omega
  have j4 : ((L : Int) - 1) % 64 = (s : Int) := by rw [Hs.out]; omega
  have j5 : (0 : Int) ≤ (L : Int) - 1 := by omega
  have j6 : (1 : Int) ≤ (L : Int) := by omega
  go_wp2_with fail
  have e0 := wrap_two hs64
  have hx3 := hx2.setTop hn0 (2 ^ s) (by have : 2 ^ s ≤ 2 ^ 63 := Nat.pow_le_pow_right (by omega) (by omega); omega) e0
  have hu3 : Upd0 w (w2.setCell ⟨b, n - 1, none⟩ (.int .u64 (IntKind.u64.wrap (2 ^ s)))) := hu.setCell _ _ (fun h => by exact absurd h (Nat.not_lt.2 hb))
  have HE : Hid (2 ^ s * W64 ^ (n - 1) = 2 ^ (L - 1) % M) := by
    show _ = _
    rw [Nat.mod_eq_of_lt HT.out, powW, ← Nat.pow_add]
    congr 1
    have := Hs.out
    omega
  rw [HE.out] at hx3
  generalize w2.setCell ⟨b, n - 1, none⟩ (.int .u64 (IntKind.u64.wrap (2 ^ s))) = w3 at *
  clear hcx hcx1 hcx2 k2 j1 j2 j2' j3 j4 j5 hx2 hu e0 HE hbl
  have hpos : 0 < M := by omega
  go_loopw [7] (fun i wr => ∃ e : Nat, L ≤ e + 1 ∧ e ≤ 64 * n ∧ i = .int .u64 e ∧ NatAt wr p b c n (2 ^ e % M) ∧ Upd0 w wr) (fun i _ => 64 * n - (intOf i).toNat)
  case atStart => exact ⟨L - 1, by omega, by omega, by go_num, hx3, hu3⟩
  case round =>
    clear hx3 hu3
    obtain ⟨e, he1, he2, rfl, hx, hu⟩ := hrel
    have HX : Hid (2 ^ e % M < M) := Nat.mod_lt _ hpos
    by_cases hlt : e < 64 * n
    · have hlt' : (e : Int) < 64 * (n : Int) := by omega
      have k1 := natAdd_any p b c n (2 ^ e % M) p b c (2 ^ e % M) mp q bm cm M wr hx hx (hm.keep0 hu) (fun _ => rfl) (by omega) (by omega) (by omega) (by have := HX.out; have := HM.out; omega)
      rw [dbl2 hpos] at k1
      replace k1 := Lib.hid k1
      go_wp2_with fail
      with_reducible refine k1.out.mono ?_
      rintro e' w4 ⟨rfl, hx4, hu4⟩
      go_wp2_with fail
      go_roundw
      case rel => exact ⟨e + 1, by omega, by omega, by go_num, hx4, hu.then hu4 (fun i hi h => by omega)⟩
      case measure => simp [intOf]; omega
    · obtain rfl : e = 64 * n := by omega
      have HW : Hid (2 ^ (64 * n) % M = W64 ^ n * 2 ^ 0 % M) := by show _ = _; rw [powW, Nat.pow_zero, Nat.mul_one]
      rw [HW.out] at hx
      clear HX
      go_wp2_with fail
      go_loop [9] (fun i => ∃ t : Nat, t ≤ 64 ∧ i = .int .i64 t) (fun i => (intOf i).toNat)
      case atStart => exact ⟨64, by omega, rfl⟩
      case round =>
        obtain ⟨t, ht, rfl⟩ := hrel
        obtain ⟨D, HD⟩ : ∃ D, Hid (D = 64 * n / 2 ^ t) := ⟨_, rfl⟩
        have e1 : (64 * (n : Int)) / 2 ^ t = (D : Int) := by rw [HD.out]; exact shr_nat n t
        have hDle : D ≤ 64 * n := by rw [HD.out]; exact Nat.div_le_self _ _
        by_cases hc : D ≤ n / 4
        · have ht0 : 0 < t := by
            rcases Nat.eq_zero_or_pos t with h | h
            · subst h
              have := HD.out
              rw [Nat.pow_zero, Nat.div_one] at this
              omega
            · exact h
          have hc' : (D : Int) ≤ (n : Int) / 4 := by omega
          go_wp2_with fail
          go_round
          case rel => exact ⟨t - 1, by omega, by go_num⟩
          case measure => simp [intOf]; omega
        · have hc' : ¬ (D : Int) ≤ (n : Int) / 4 := by omega
          go_wp2_with fail
          clear hc hc'
          go_loopw [10] (fun i wq => ∃ g : Nat, g ≤ D ∧ i = .int .u64 g ∧ NatAt wq p b c n (W64 ^ n * 2 ^ g % M) ∧ Upd0 w wq) (fun i _ => D - (intOf i).toNat)
          case atStart => exact ⟨0, Nat.zero_le _, rfl, hx, hu⟩
          case round =>
            clear hx hu
            obtain ⟨g, hg, rfl, hx, hu⟩ := hrel
            have HX : Hid (W64 ^ n * 2 ^ g % M < M) := Nat.mod_lt _ hpos
            by_cases hlt2 : g < D
            · have hlt2' : (g : Int) < (D : Int) := by omega
              have k1 := natAdd_any p b c n (W64 ^ n * 2 ^ g % M) p b c (W64 ^ n * 2 ^ g % M) mp q bm cm M wr hx hx (hm.keep0 hu) (fun _ => rfl) (by omega) (by omega) (by omega) (by have := HX.out; have := HM.out; omega)
              rw [dbl_mod _ _ hpos] at k1
              replace k1 := Lib.hid k1
              go_wp2_with fail
              with_reducible refine k1.out.mono ?_
              rintro e' w4 ⟨rfl, hx4, hu4⟩
              go_wp2_with fail
              go_roundw
              case rel => exact ⟨g + 1, by omega, by go_num, hx4, hu.then hu4 (fun i hi h => by omega)⟩
              case measure => simp [intOf]; omega
            · obtain rfl : g = D := by omega
              rw [HD.out] at hx
              go_wp2_with fail
              clear e1 HX
              go_loopw [9] (fun i wq => ∃ t' b' c' : Nat, t' ≤ 64 ∧ i = .int .i64 t' ∧ w.heap.size ≤ b' ∧ NatAt wq p b' c' n (W64 ^ n * 2 ^ (64 * n / 2 ^ t') % M) ∧ Upd0 w wq) (fun i _ => (intOf i).toNat)
              case atStart => exact ⟨t, b, c, ht, rfl, hb, hx, hu⟩
              case round =>
                clear hx hu hlt2
                obtain ⟨t', b', c', ht', rfl, hb', hx, hu⟩ := hrel
                rcases Nat.eq_zero_or_pos t' with h0 | h0
                · subst h0
                  have HF : Hid (W64 ^ n * 2 ^ (64 * n / 2 ^ 0) % M = W64 ^ n * W64 ^ n % M) := by show _ = _; rw [Nat.pow_zero, Nat.div_one, ← powW]
                  rw [HF.out] at hx
                  go_wp2_with fail
                  go_ret
                  exact ⟨p, b', c', rfl, hx, hp, hb', hu⟩
                · obtain ⟨u, rfl⟩ : ∃ u, t' = u + 1 := ⟨t' - 1, by omega⟩
                  obtain ⟨D2, HD2⟩ : ∃ D2, Hid (D2 = 64 * n / 2 ^ u) := ⟨_, rfl⟩
                  have HB : Hid (D2 = 2 * (64 * n / 2 ^ (u + 1)) + D2 % 2) := by show _ = _; rw [HD2.out]; exact half_bit _ _
                  have k1 := mont_any n p b' c' n _ p b' c' _ p b' c' _ mp q bm cm M k wr hn2 hn0 hx hx hx (hm.keep0 hu) (hu.cell (p := ⟨mp, 2, none⟩) id hkc) HK.out hpos (by omega) (by omega) (by omega) (by omega) (by omega) (by omega)
                  rw [sq_mont HK.out HO.out HM.out] at k1
                  replace k1 := Lib.hid k1
                  have i0 : (0 : Int) < ((u + 1 : Nat) : Int) := by omega
                  go_wp2_with fail
                  with_reducible refine k1.out.mono ?_
                  rintro e' w4 ⟨rfl, b4, c4, hx4, hb4, hu4⟩
                  have hub : Upd0 w w4 := hu.then hu4 (fun i hi h => by omega)
                  have hz := hu.size
                  have hb4' : w.heap.size ≤ b4 := by rcases hb4 with h | h <;> omega
                  clear hu4 hb4
                  have e1 : (64 * (n : Int)) / 2 ^ u = (D2 : Int) := by rw [HD2.out]; exact shr_nat n u
                  have hD2 : D2 ≤ 64 * n := by rw [HD2.out]; exact Nat.div_le_self _ _
                  have e2 := and_one D2
                  have HX : Hid (W64 ^ n * 2 ^ (2 * (64 * n / 2 ^ (u + 1))) % M < M) := Nat.mod_lt _ hpos
                  have e3 : (((u + 1 : Nat) : Int) - 1) = (u : Int) := by omega
                  rcases Nat.mod_two_eq_zero_or_one D2 with hb2 | hb2
                  · rw [hb2] at e2
                    have HV : Hid (2 * (64 * n / 2 ^ (u + 1)) = 64 * n / 2 ^ u) := by show _ = _; have h1 := HB.out; have h2 := HD2.out; omega
                    rw [HV.out] at hx4
                    clear hb2
                    go_wp2_with fail
                    go_roundw
                    case rel => exact ⟨u, b4, c4, by omega, by go_num, hb4', hx4, hub⟩
                    case measure => simp [intOf]
                  · rw [hb2] at e2
                    have HV : Hid (2 * (64 * n / 2 ^ (u + 1)) + 1 = 64 * n / 2 ^ u) := by show _ = _; have h1 := HB.out; have h2 := HD2.out; omega
                    have k2 := natAdd_any p b4 c4 n _ p b4 c4 _ mp q bm cm M w4 hx4 hx4 (hm.keep0 hub) (fun _ => rfl) (by omega) (by omega) (by omega) (by have := HX.out; have := HM.out; omega)
                    rw [dbl_mod _ _ hpos, HV.out] at k2
                    replace k2 := Lib.hid k2
                    clear hb2
                    go_wp2_with fail
                    with_reducible refine k2.out.mono ?_
                    rintro e' w5 ⟨rfl, hx5, hu5⟩
                    go_wp2_with fail
                    go_roundw
                    case rel => exact ⟨u, b4, c4, by omega, by go_num, hb4', hx5, hub.then hu5 (fun i hi h => by omega)⟩
                    case measure => simp [intOf]
end Go.Proofs.Ytmbghmjllipbhaa
