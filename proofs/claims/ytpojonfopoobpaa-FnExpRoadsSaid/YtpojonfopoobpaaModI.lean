/-
  Contracts: Modulus.BitLen, rr.
  A modulus in memory, and what the Montgomery multiplication does with it.
  Contracts: errors.New, newModulus, resetToBytes, NewModulus, impl.modulus.
  Contracts: impl.modulus, Modulus.Size, impl.ModulusSize, spec.ModulusSize.
-/
import Derived.Test.YtpojonfopoobpaaMontB
import Derived.Test.YtpojonfopoobpaaNumB
import Derived.Test.YtpojonfopoobpaaBytesB
import Derived.Test.YtpojonfopoobpaaGcdA
import Derived.Test.YtpojonfopoobpaaLwBase
import Derived.Test.YtpojonfopoobpaaSpecI
namespace Go.Proofs.Ytpojonfopoobpaa
open Go.RowKit

set_option maxHeartbeats 400000 in
theorem modBitLen_any (mp q b c n M : Nat) (w : World) (hm : MNat w mp q b c n M) :
    Calls Try.prog 76 #[.pointer (some ⟨mp, 0, none⟩)] w fun e w' => e = .returned (.int .i64 (blen M)) ∧ w = w' := by
  have h1 := hm.hm
  have k1 := Lib.hid (bitLenVT_any q b c n M w hm.nat)
  go_enter Try.func76, Try.ntmps76
  go_wp2_with fail
  with_reducible refine k1.out.mono ?_
  rintro e w' ⟨rfl, rfl⟩
  go_wp2_with fail
  go_ret
  exact ⟨rfl, rfl⟩
/-- The top limb of a number 0 is set. -/
theorem NatAt.setTop {w : World} {p b c n : Nat} (hx : NatAt w p b c n 0) (hn : 0 < n) (d : Nat) (hd : d < 18446744073709551616) {z : Int} (hz : z = (d : Nat)) : NatAt (w.setCell ⟨b, n - 1, none⟩ (.int .u64 z)) p b c n (d * W64 ^ (n - 1)) := by
  subst hz
  have hp : 0 < W64 ^ (n - 1) := Nat.pow_pos W64_pos
  have hw := (Wrote.start hx.own).set (show n - 1 < n by omega) d rfl
  refine hx.wrote (hw.congr fun i hi => ?_) ?_
  · by_cases e : i = n - 1
    · subst e
      rw [if_pos rfl]
      unfold dg
      rw [Nat.mul_div_cancel _ hp, Nat.mod_eq_of_lt (by unfold W64; omega)]
    · rw [if_neg e, dg_of_lt (Nat.pow_pos W64_pos)]
      unfold dg
      obtain ⟨t, ht⟩ : ∃ t, n - 1 = i + (t + 1) := ⟨n - 1 - i - 1, by omega⟩
      rw [ht, Nat.pow_add, Nat.pow_succ, ← Nat.mul_assoc, Nat.mul_comm d, Nat.mul_assoc, Nat.mul_div_cancel_left _ (Nat.pow_pos W64_pos), ← Nat.mul_assoc, Nat.mul_mod_left]
  · obtain ⟨k, rfl⟩ : ∃ k, n = k + 1 := ⟨n - 1, by omega⟩
    rw [Nat.add_sub_cancel, Nat.pow_succ, Nat.mul_comm]
    rw [Nat.add_sub_cancel] at hp
    exact (Nat.mul_lt_mul_left hp).2 hd
theorem dbl2 {M e : Nat} (hM : 0 < M) : redN (2 ^ e % M + 2 ^ e % M) M = 2 ^ (e + 1) % M := by
  have := dbl_mod 1 e hM
  rwa [Nat.one_mul, Nat.one_mul] at this
theorem sq_mont {n k M e : Nat} (hk : (k * M + 1) % W64 = 0) (ho : M % 2 = 1) (hM : M < W64 ^ n) : mmN n k (W64 ^ n * 2 ^ e % M) (W64 ^ n * 2 ^ e % M) M = W64 ^ n * 2 ^ (2 * e) % M := by
  have hp : 0 < M := by omega
  have h1 := Nat.mod_lt (W64 ^ n * 2 ^ e) hp
  have h2 : W64 ^ n * 2 ^ e % M % M = 2 ^ e * W64 ^ n % M := by rw [Nat.mod_mod, Nat.mul_comm]
  rw [mmN_mont (a := 2 ^ e) (b := 2 ^ e) hk ho h1 (by omega) h2 h2, ← Nat.pow_add, Nat.two_mul, Nat.mul_comm]
theorem half_bit (R t : Nat) : R / 2 ^ t = 2 * (R / 2 ^ (t + 1)) + R / 2 ^ t % 2 := by
  rw [Nat.pow_succ, ← Nat.div_div_eq_div_mul]; omega

theorem wrap_two {s : Nat} (hs : s < 64) : IntKind.u64.wrap (2 ^ s) = ((2 ^ s : Nat) : Int) := by
  have h : 2 ^ s ≤ 2 ^ 63 := Nat.pow_le_pow_right (by omega) (by omega)
  rw [show ((2 : Int) ^ s) = ((2 ^ s : Nat) : Int) by simp]
  generalize 2 ^ s = m at *
  exact IntWalk.u64_in _ (by omega)
theorem shr_nat (n t : Nat) : (64 * (n : Int)) / 2 ^ t = ((64 * n / 2 ^ t : Nat) : Int) := by simp
/-- A new number of n limbs is returned. -/
def RetFresh (w : World) (n X : Nat) (e : Ending) (w' : World) : Prop :=
  ∃ p b c, e = .returned (.pointer (some ⟨p, 0, none⟩)) ∧ NatAt w' p b c n X ∧ w.heap.size ≤ p ∧ w.heap.size ≤ b ∧ Upd0 w w'

set_option maxRecDepth 100000 in
set_option maxHeartbeats 8000000 in
theorem rr_any (mp q bm cm n M k : Nat) (w : World) (hm : MNat w mp q bm cm n M) (hkc : w.cell? ⟨mp, 2, none⟩ = some (.int .u64 k)) (hk : (k * M + 1) % W64 = 0) (ho : M % 2 = 1) (h1 : 1 < M) (hn : n = nl M) (hn2 : n ≤ 16384) :
    Calls Try.prog 142 #[.pointer (some ⟨mp, 0, none⟩)] w (RetFresh w n (W64 ^ n * W64 ^ n % M)) := by
  have hlm := hm.hp
  have hlq := hm.nat.hp
  have hlb := hm.nat.hb
  obtain ⟨L, HL⟩ : ∃ L, Hid (L = blen M) := ⟨_, rfl⟩
  have hL0 : 0 < L := by rw [HL.out]; exact blen_pos (by omega)
  have hL1 : L ≤ 64 * n := by rw [HL.out, hn]; unfold nl; omega
  have hL2 : 64 * n < L + 64 := by rw [HL.out, hn]; unfold nl; omega
  have hn0 : 0 < n := by omega
  have HT : Hid (2 ^ (L - 1) < M) := by rw [HL.out]; exact top_lt ho h1
  have HK := Lib.hid hk
  have HO := Lib.hid ho
  have HM : Hid (M < W64 ^ n) := hm.nat.lt
  have hbl := fun w hm => modBitLen_any mp q bm cm n M w hm
  rw [← HL.out] at hbl
  replace hbl := Lib.hid hbl
  clear hk ho hn
  go_enter Try.func142, Try.ntmps142
  go_wp2_with fail
  with_reducible refine (newNat_any w).mono ?_
  rintro e w1 ⟨rfl, hx1, hu1, hz1⟩
  replace hz1 : w.heap.size + 2 ≤ w1.heap.size := by omega
  go_wp2_with fail
  with_reducible refine (expandFor_any (w.heap.size + 1) w.heap.size 32 0 0 mp q bm cm n M w1 hx1 (hm.keep0 hu1) (Nat.zero_le _)).mono ?_
  rintro e w2 ⟨rfl, b, c, hx2, hb2, hu2⟩
  obtain ⟨p, Hp⟩ : ∃ p, Hid (p = w.heap.size + 1) := ⟨_, rfl⟩
  rw [← Hp.out] at hx2 ⊢
  have hp : w.heap.size ≤ p := by rw [Hp.out]; omega
  have hb : w.heap.size ≤ b := by rcases hb2 with h | h <;> omega
  have hu : Upd0 w w2 := hu1.then hu2 (fun i hi h => by omega)
  clear hx1 hu1 hz1 hb2 hu2 Hp
  have hcx := hx2.hd
  have hcx1 := hx2.own.cell (n - 1) (by omega)
  have hcx2 := hx2.own.free (n - 1) (by omega)
  have k2 := Lib.hid (hbl.out w2 (hm.keep0 hu))
  go_wp2_with fail
  with_reducible refine k2.out.mono ?_
  rintro e w' ⟨rfl, rfl⟩
  obtain ⟨s, Hs⟩ : ∃ s, Hid (s = (L - 1) % 64) := ⟨_, rfl⟩
  have hs64 : s < 64 := by rw [Hs.out]; omega
  have j1 : (n : Int) - 1 < (n : Int) := by omega
  have j2 : (0 : Int) ≤ (n : Int) - 1 := by omega
  have j2' : (1 : Int) ≤ (n : Int) := by omega
  have j3 : ((n : Int) - 1).toNat = n - 1 := by omega
  have j4 : ((L : Int) - 1) % 64 = (s : Int) := by rw [Hs.out]; omega
  have j5 : (0 : Int) ≤ (L : Int) - 1 := by omega
  have j6 : (1 : Int) ≤ (L : Int) := by omega
  go_wp2_with fail
  have e0 := wrap_two hs64
  have hx3 := hx2.setTop hn0 (2 ^ s) (by have : 2 ^ s ≤ 2 ^ 63 := Nat.pow_le_pow_right (by omega) (by omega); omega) e0
  have hu3 : Upd0 w (w2.setCell ⟨b, n - 1, none⟩ (.int .u64 (IntKind.u64.wrap (2 ^ s)))) := hu.setCell _ _ (fun h => by exact absurd h (Nat.not_lt.2 hb))
  have HE : Hid (2 ^ s * W64 ^ (n - 1) = 2 ^ (L - 1) % M) := by
    show _ = _
    rw [Nat.mod_eq_of_lt HT.out, powW, ← Nat.pow_add]
    congr 1
    have := Hs.out
    omega
  rw [HE.out] at hx3
  generalize w2.setCell ⟨b, n - 1, none⟩ (.int .u64 (IntKind.u64.wrap (2 ^ s))) = w3 at *
  clear hcx hcx1 hcx2 k2 j1 j2 j2' j3 j4 j5 hx2 hu e0 HE hbl
  have hpos : 0 < M := by omega
  go_loopw [7] (fun i wr => ∃ e : Nat, L ≤ e + 1 ∧ e ≤ 64 * n ∧ i = .int .u64 e ∧ NatAt wr p b c n (2 ^ e % M) ∧ Upd0 w wr) (fun i _ => 64 * n - (intOf i).toNat)
  case atStart => exact ⟨L - 1, by omega, by omega, by go_num, hx3, hu3⟩
  case round =>
    clear hx3 hu3
    obtain ⟨e, he1, he2, rfl, hx, hu⟩ := hrel
    have HX : Hid (2 ^ e % M < M) := Nat.mod_lt _ hpos
    by_cases hlt : e < 64 * n
    · have hlt' : (e : Int) < 64 * (n : Int) := by omega
      have k1 := natAdd_any p b c n (2 ^ e % M) p b c (2 ^ e % M) mp q bm cm M wr hx hx (hm.keep0 hu) (fun _ => rfl) (by omega) (by omega) (by omega) (by have := HX.out; have := HM.out; omega)
      rw [dbl2 hpos] at k1
      replace k1 := Lib.hid k1
      go_wp2_with fail
      with_reducible refine k1.out.mono ?_
      rintro e' w4 ⟨rfl, hx4, hu4⟩
      go_wp2_with fail
      go_roundw
      case rel => exact ⟨e + 1, by omega, by omega, by go_num, hx4, hu.then hu4 (fun i hi h => by omega)⟩
      case measure => simp [intOf]; omega
    · obtain rfl : e = 64 * n := by omega
      have HW : Hid (2 ^ (64 * n) % M = W64 ^ n * 2 ^ 0 % M) := by show _ = _; rw [powW, Nat.pow_zero, Nat.mul_one]
      rw [HW.out] at hx
      clear HX
      go_wp2_with fail
      go_loop [9] (fun i => ∃ t : Nat, t ≤ 64 ∧ i = .int .i64 t) (fun i => (intOf i).toNat)
      case atStart => exact ⟨64, by omega, rfl⟩
      case round =>
        obtain ⟨t, ht, rfl⟩ := hrel
        obtain ⟨D, HD⟩ : ∃ D, Hid (D = 64 * n / 2 ^ t) := ⟨_, rfl⟩
        have e1 : (64 * (n : Int)) / 2 ^ t = (D : Int) := by rw [HD.out]; exact shr_nat n t
        have hDle : D ≤ 64 * n := by rw [HD.out]; exact Nat.div_le_self _ _
        by_cases hc : D ≤ n / 4
        · have ht0 : 0 < t := by
            rcases Nat.eq_zero_or_pos t with h | h
            · subst h
              have := HD.out
              rw [Nat.pow_zero, Nat.div_one] at this
              omega
            · exact h
          have hc' : (D : Int) ≤ (n : Int) / 4 := by omega
          go_wp2_with fail
          go_round
          case rel => exact ⟨t - 1, by omega, by go_num⟩
          case measure => simp [intOf]; omega
        · have hc' : ¬ (D : Int) ≤ (n : Int) / 4 := by omega
          go_wp2_with fail
          clear hc hc'
          go_loopw [10] (fun i wq => ∃ g : Nat, g ≤ D ∧ i = .int .u64 g ∧ NatAt wq p b c n (W64 ^ n * 2 ^ g % M) ∧ Upd0 w wq) (fun i _ => D - (intOf i).toNat)
          case atStart => exact ⟨0, Nat.zero_le _, rfl, hx, hu⟩
          case round =>
            clear hx hu
            obtain ⟨g, hg, rfl, hx, hu⟩ := hrel
            have HX : Hid (W64 ^ n * 2 ^ g % M < M) := Nat.mod_lt _ hpos
            by_cases hlt2 : g < D
            · have hlt2' : (g : Int) < (D : Int) := by omega
              have k1 := natAdd_any p b c n (W64 ^ n * 2 ^ g % M) p b c (W64 ^ n * 2 ^ g % M) mp q bm cm M wr hx hx (hm.keep0 hu) (fun _ => rfl) (by omega) (by omega) (by omega) (by have := HX.out; have := HM.out; omega)
              rw [dbl_mod _ _ hpos] at k1
              replace k1 := Lib.hid k1
              go_wp2_with fail
              with_reducible refine k1.out.mono ?_
              rintro e' w4 ⟨rfl, hx4, hu4⟩
              go_wp2_with fail
              go_roundw
              case rel => exact ⟨g + 1, by omega, by go_num, hx4, hu.then hu4 (fun i hi h => by omega)⟩
              case measure => simp [intOf]; omega
            · obtain rfl : g = D := by omega
              rw [HD.out] at hx
              go_wp2_with fail
              clear e1 HX
              go_loopw [9] (fun i wq => ∃ t' b' c' : Nat, t' ≤ 64 ∧ i = .int .i64 t' ∧ w.heap.size ≤ b' ∧ NatAt wq p b' c' n (W64 ^ n * 2 ^ (64 * n / 2 ^ t') % M) ∧ Upd0 w wq) (fun i _ => (intOf i).toNat)
              case atStart => exact ⟨t, b, c, ht, rfl, hb, hx, hu⟩
              case round =>
                clear hx hu hlt2
                obtain ⟨t', b', c', ht', rfl, hb', hx, hu⟩ := hrel
                rcases Nat.eq_zero_or_pos t' with h0 | h0
                · subst h0
                  have HF : Hid (W64 ^ n * 2 ^ (64 * n / 2 ^ 0) % M = W64 ^ n * W64 ^ n % M) := by show _ = _; rw [Nat.pow_zero, Nat.div_one, ← powW]
                  rw [HF.out] at hx
                  go_wp2_with fail
                  go_ret
                  exact ⟨p, b', c', rfl, hx, hp, hb', hu⟩
                · obtain ⟨u, rfl⟩ : ∃ u, t' = u + 1 := ⟨t' - 1, by omega⟩
                  obtain ⟨D2, HD2⟩ : ∃ D2, Hid (D2 = 64 * n / 2 ^ u) := ⟨_, rfl⟩
                  have HB : Hid (D2 = 2 * (64 * n / 2 ^ (u + 1)) + D2 % 2) := by show _ = _; rw [HD2.out]; exact half_bit _ _
                  have k1 := mont_any n p b' c' n _ p b' c' _ p b' c' _ mp q bm cm M k wr hn2 hn0 hx hx hx (hm.keep0 hu) (hu.cell (p := ⟨mp, 2, none⟩) id hkc) HK.out hpos (by omega) (by omega) (by omega) (by omega) (by omega) (by omega)
                  rw [sq_mont HK.out HO.out HM.out] at k1
                  replace k1 := Lib.hid k1
                  have i0 : (0 : Int) < ((u + 1 : Nat) : Int) := by omega
                  go_wp2_with fail
                  with_reducible refine k1.out.mono ?_
                  rintro e' w4 ⟨rfl, b4, c4, hx4, hb4, hu4⟩
                  have hub : Upd0 w w4 := hu.then hu4 (fun i hi h => by omega)
                  have hz := hu.size
                  have hb4' : w.heap.size ≤ b4 := by rcases hb4 with h | h <;> omega
                  clear hu4 hb4
                  have e1 : (64 * (n : Int)) / 2 ^ u = (D2 : Int) := by rw [HD2.out]; exact shr_nat n u
                  have hD2 : D2 ≤ 64 * n := by rw [HD2.out]; exact Nat.div_le_self _ _
                  have e2 := and_one D2
                  have HX : Hid (W64 ^ n * 2 ^ (2 * (64 * n / 2 ^ (u + 1))) % M < M) := Nat.mod_lt _ hpos
                  have e3 : (((u + 1 : Nat) : Int) - 1) = (u : Int) := by omega
                  rcases Nat.mod_two_eq_zero_or_one D2 with hb2 | hb2
                  · rw [hb2] at e2
                    have HV : Hid (2 * (64 * n / 2 ^ (u + 1)) = 64 * n / 2 ^ u) := by show _ = _; have h1 := HB.out; have h2 := HD2.out; omega
                    rw [HV.out] at hx4
                    clear hb2
                    go_wp2_with fail
                    go_roundw
                    case rel => exact ⟨u, b4, c4, by omega, by go_num, hb4', hx4, hub⟩
                    case measure => simp [intOf]
                  · rw [hb2] at e2
                    have HV : Hid (2 * (64 * n / 2 ^ (u + 1)) + 1 = 64 * n / 2 ^ u) := by show _ = _; have h1 := HB.out; have h2 := HD2.out; omega
                    have k2 := natAdd_any p b4 c4 n _ p b4 c4 _ mp q bm cm M w4 hx4 hx4 (hm.keep0 hub) (fun _ => rfl) (by omega) (by omega) (by omega) (by have := HX.out; have := HM.out; omega)
                    rw [dbl_mod _ _ hpos, HV.out] at k2
                    replace k2 := Lib.hid k2
                    clear hb2
                    go_wp2_with fail
                    with_reducible refine k2.out.mono ?_
                    rintro e' w5 ⟨rfl, hx5, hu5⟩
                    go_wp2_with fail
                    go_roundw
                    case rel => exact ⟨u, b4, c4, by omega, by go_num, hb4', hx5, hub.then hu5 (fun i hi h => by omega)⟩
                    case measure => simp [intOf]
end Go.Proofs.Ytpojonfopoobpaa

namespace Go.Proofs.Ytpojonfopoobpaa
open Go.RowKit

/-- A modulus M of n limbs at mp; all of its blocks lie below s. -/
structure ModAt (w : World) (s mp n M : Nat) : Prop where
  ex : ∃ q b c, MNat w mp q b c n M ∧ q < s ∧ b < s
  hp : mp < s
  hs : s ≤ w.heap.size
  hn : n = nl M
  h1 : 1 < M
  hn2 : n ≤ 16384
  odd : w.cell? ⟨mp, 1, none⟩ = some (.bool (decide (M % 2 = 1)))
  mont : M % 2 = 1 → ∃ k pr br cr, w.cell? ⟨mp, 2, none⟩ = some (.int .u64 (k : Nat)) ∧ (k * M + 1) % W64 = 0 ∧ w.cell? ⟨mp, 3, none⟩ = some (.pointer (some ⟨pr, 0, none⟩)) ∧ NatAt w pr br cr n (W64 ^ n * W64 ^ n % M) ∧ pr < s ∧ br < s
theorem ModAt.keep {S : Nat → Prop} {w w' : World} {s mp n M : Nat} (h : ModAt w s mp n M) (hu : Upd S w w') (hS : ∀ k, k < s → ¬ S k) : ModAt w' s mp n M where
  ex := by
    obtain ⟨q, b, c, h1, h2, h3⟩ := h.ex
    exact ⟨q, b, c, h1.keep hu (hS _ h.hp) (hS _ h2) (hS _ h3), h2, h3⟩
  hp := h.hp
  hs := Nat.le_trans h.hs hu.size
  hn := h.hn
  h1 := h.h1
  hn2 := h.hn2
  odd := hu.cell (p := ⟨mp, 1, none⟩) (hS _ h.hp) h.odd
  mont := fun ho => by
    obtain ⟨k, pr, br, cr, h1, h2, h3, h4, h5, h6⟩ := h.mont ho
    exact ⟨k, pr, br, cr, hu.cell (p := ⟨mp, 2, none⟩) (hS _ h.hp) h1, h2, hu.cell (p := ⟨mp, 3, none⟩) (hS _ h.hp) h3, h4.keep hu (hS _ h5) (hS _ h6), h5, h6⟩
theorem ModAt.keep0 {w w' : World} {s mp n M : Nat} (h : ModAt w s mp n M) (hu : Upd0 w w') : ModAt w' s mp n M := h.keep hu (fun _ _ h => h)
theorem ModAt.lt {w : World} {s mp n M : Nat} (h : ModAt w s mp n M) : M < W64 ^ n := by rw [h.hn]; exact lt_pow_nl M
theorem ModAt.npos {w : World} {s mp n M : Nat} (h : ModAt w s mp n M) : 0 < n := by rw [h.hn]; exact nl_pos (by have := h.h1; omega)
theorem ModAt.up {w : World} {s s' mp n M : Nat} (h : ModAt w s mp n M) (hs : s ≤ s') (hs' : s' ≤ w.heap.size) : ModAt w s' mp n M where
  ex := by
    obtain ⟨q, b, c, h1, h2, h3⟩ := h.ex
    exact ⟨q, b, c, h1, by omega, by omega⟩
  hp := by have := h.hp; omega
  hs := hs'
  hn := h.hn
  h1 := h.h1
  hn2 := h.hn2
  odd := h.odd
  mont := fun ho => by
    obtain ⟨k, pr, br, cr, h1, h2, h3, h4, h5, h6⟩ := h.mont ho
    exact ⟨k, pr, br, cr, h1, h2, h3, h4, by omega, by omega⟩

/-- At p lies a number of n limbs, in blocks from lo on. -/
structure NumAt (w : World) (lo p b n X : Nat) : Prop where
  ex : ∃ c, NatAt w p b c n X
  hp : lo ≤ p
  hb : lo ≤ b
end Go.Proofs.Ytpojonfopoobpaa

namespace Go.Proofs.Ytpojonfopoobpaa
open Go.RowKit

/-- An error that is not nil. -/
def IsErr (v : Value) : Prop := ∃ t x, v = .iface t x
set_option maxHeartbeats 400000 in
theorem errNew_any (s : ByteArray) (w : World) :
    Calls Try.prog 115 #[.string s] w fun e w' => (∃ t x, e = .returned (.iface t x)) ∧ Upd0 w w' := by
  go_enter Try.func115, Try.ntmps115
  go_wp2
  go_ret
  exact ⟨⟨_, _, rfl⟩, (Upd.refl _ _).alloc _⟩
theorem isOne_yes {p b c n : Nat} {w : World} (hx : NatAt w p b c n 1) : Calls Try.prog 70 #[.pointer (some ⟨p, 0, none⟩)] w fun e w' => e = .returned (.int .u64 1) ∧ w = w' := isOne_any p b c n 1 w hx
theorem isOne_no {p b c n X : Nat} {w : World} (hx : NatAt w p b c n X) (h : X ≠ 1) : Calls Try.prog 70 #[.pointer (some ⟨p, 0, none⟩)] w fun e w' => e = .returned (.int .u64 0) ∧ w = w' := by
  have := isOne_any p b c n X w hx
  rw [show eqN X 1 = 0 from if_neg h] at this
  exact this
/-- No modulus is returned. -/
def RetNoMod (w : World) (e : Ending) (w' : World) : Prop := ∃ t x, e = .returned (.tuple #[.pointer none, .iface t x]) ∧ Upd0 w w'
/-- A modulus is returned. -/
def RetMod (w : World) (M : Nat) (e : Ending) (w' : World) : Prop := ∃ mp, e = .returned (.tuple #[.pointer (some ⟨mp, 0, none⟩), .nilIface]) ∧ ModAt w' w'.heap.size mp (nl M) M ∧ Upd0 w w'

theorem MNat.cells4 {w : World} {q b c n M : Nat} (h : NatAt w q b c n M) (x y z : Value) (t : Nat) : MNat (w.alloc (.cells #[.pointer (some ⟨q, 0, none⟩), x, y, z] t)) w.heap.size q b c n M :=
  ⟨World.cell?_alloc_new _ _ _ _, h.keep0 ((Upd.refl _ _).alloc _)⟩
set_option maxRecDepth 100000 in
set_option maxHeartbeats 1000000 in
theorem newModulus_no (q b c n M : Nat) (w : World) (hx : NatAt w q b c n M) (h1 : ¬ 1 < M) :
    Calls Try.prog 107 #[.pointer (some ⟨q, 0, none⟩)] w (RetNoMod w) := by
  have ua : Upd0 w (w.alloc (.cells #[.pointer (some ⟨q, 0, none⟩), .bool false, .int .u64 0, .pointer none] 95)) := (Upd.refl _ _).alloc _
  have hm := MNat.boxed hx 95
  have hc := hm.hm
  rcases (show M = 0 ∨ M = 1 by omega) with h | h
  · subst h
    have k1 := Lib.hid (isZero_yes hm.nat)
    go_enter Try.func107, Try.ntmps107
    go_wp2_with fail
    with_reducible refine k1.out.mono ?_
    rintro e w' ⟨rfl, rfl⟩
    go_wp2_with fail
    with_reducible refine (errNew_any _ _).mono ?_
    rintro e w2 ⟨⟨t, x, rfl⟩, hu2⟩
    go_wp2_with fail
    go_ret2
    exact ⟨t, x, rfl, ua.trans hu2⟩
  · subst h
    have k1 := Lib.hid (isZero_no hm.nat (by omega))
    have k2 := Lib.hid (isOne_yes hm.nat)
    go_enter Try.func107, Try.ntmps107
    go_wp2_with fail
    with_reducible refine k1.out.mono ?_
    rintro e w' ⟨rfl, rfl⟩
    go_wp2_with fail
    with_reducible refine k2.out.mono ?_
    rintro e w' ⟨rfl, rfl⟩
    go_wp2_with fail
    with_reducible refine (errNew_any _ _).mono ?_
    rintro e w2 ⟨⟨t, x, rfl⟩, hu2⟩
    go_wp2_with fail
    go_ret2
    exact ⟨t, x, rfl, ua.trans hu2⟩
theorem minv_mod {M : Nat} (ho : M % 2 = 1) : (minvN (dg W64 M 0) * M + 1) % W64 = 0 := by
  have h1 : dg W64 M 0 % 2 = 1 := by rw [dg_zero]; unfold W64; omega
  have h2 := minvN_spec h1
  revert h2
  generalize minvN (dg W64 M 0) = k
  intro h2
  rw [dg_zero] at h2
  rw [← h2]
  generalize W64 = W
  rw [Nat.add_mod, Nat.mul_mod, Nat.add_mod (k * (M % W)), Nat.mul_mod k (M % W), Nat.mod_mod]
set_option maxRecDepth 100000 in
set_option maxHeartbeats 2000000 in
theorem newModulus_yes (q b c M : Nat) (w : World) (hx : NatAt w q b c (nl M) M) (h1 : 1 < M) (hn2 : nl M ≤ 16384) :
    Calls Try.prog 107 #[.pointer (some ⟨q, 0, none⟩)] w (RetMod w M) := by
  have hql := hx.hp
  have hbl := hx.hb
  have hn0 : 0 < nl M := nl_pos (by omega)
  have HM := Lib.hid hx.lt
  obtain ⟨n, Hn⟩ : ∃ n, Hid (n = nl M) := ⟨_, rfl⟩
  rw [← Hn.out] at hx hn2 hn0 HM
  have hm := MNat.cells4 hx (.bool false) (.int .u64 0) (.pointer none) 95
  have hc := hm.hm
  have k1 := Lib.hid (isZero_no hm.nat (by omega))
  have k2 := Lib.hid (isOne_no hm.nat (by omega))
  rcases Nat.mod_two_eq_zero_or_one M with ho | ho
  · have k3 := Lib.hid (isOdd_no hm.nat ho)
    have HO := Lib.hid ho
    have h1' := h1
    clear ho
    go_enter Try.func107, Try.ntmps107
    go_wp2_with fail
    with_reducible refine k1.out.mono ?_
    rintro e w' ⟨rfl, rfl⟩
    go_wp2_with fail
    with_reducible refine k2.out.mono ?_
    rintro e w' ⟨rfl, rfl⟩
    go_wp2_with fail
    with_reducible refine k3.out.mono ?_
    rintro e w' ⟨rfl, rfl⟩
    go_wp2_with fail
    go_ret2
    refine ⟨w.heap.size, rfl, ?_, (Upd.refl _ _).alloc _⟩
    rw [← Hn.out]
    exact ⟨⟨q, b, c, hm, by simp; omega, by simp; omega⟩, by simp, Nat.le_refl _, Hn.out, h1, hn2, by rw [show decide (M % 2 = 1) = false by rw [HO.out]; rfl]; exact World.cell?_alloc_new _ _ _ _, fun h => by have := HO.out; omega⟩
  · have k3 := Lib.hid (isOdd_yes hm.nat ho)
    have HO := Lib.hid ho
    have HK := Lib.hid (minv_mod ho)
    obtain ⟨k, Hk⟩ : ∃ k, Hid (k = minvN (dg W64 M 0)) := ⟨_, rfl⟩
    have hm2 := MNat.cells4 hx (.bool true) (.int .u64 0) (.pointer none) 95
    have hm3 := MNat.cells4 hx (.bool true) (.int .u64 k) (.pointer none) 95
    have hck : (w.alloc (.cells #[.pointer (some ⟨q, 0, none⟩), .bool true, .int .u64 k, .pointer none] 95)).cell? ⟨w.heap.size, 2, none⟩ = some (.int .u64 k) := World.cell?_alloc_new _ _ _ _
    have kr := rr_any w.heap.size q b c n M k _ hm3 hck (by rw [Hk.out]; exact HK.out) ho h1 Hn.out hn2
    have kv := minv_any (dg W64 M 0) (w.alloc (.cells #[.pointer (some ⟨q, 0, none⟩), .bool true, .int .u64 0, .pointer none] 95)) (limb_lt _ _)
    obtain ⟨d, hd, hdl, HD⟩ := hm2.nat.limb hn0
    have hhd := hm2.nat.hd
    have hmm2 := hm2.hm
    rw [← HD.out] at kv
    rw [HD.out, ← Hk.out, ← HD.out] at kv
    replace kr := Lib.hid kr
    replace kv := Lib.hid kv
    have hn0' : (0 : Int) < (n : Int) := by omega
    clear ho
    go_enter Try.func107, Try.ntmps107
    go_wp2_with fail
    with_reducible refine k1.out.mono ?_
    rintro e w' ⟨rfl, rfl⟩
    go_wp2_with fail
    with_reducible refine k2.out.mono ?_
    rintro e w' ⟨rfl, rfl⟩
    go_wp2_with fail
    with_reducible refine k3.out.mono ?_
    rintro e w' ⟨rfl, rfl⟩
    go_wp2_with fail
    with_reducible refine kv.out.mono ?_
    rintro e w' ⟨rfl, rfl⟩
    go_wp2_with fail
    with_reducible refine kr.out.mono ?_
    rintro e w3 ⟨pr, br, cr, rfl, hr, hpr, hbr, hu3⟩
    have hz3 := hu3.size
    have hb0 : w.heap.size < w3.heap.size := by simp at hz3; omega
    have hpr' : w.heap.size < pr := by simp at hpr; omega
    have hbr' : w.heap.size < br := by simp at hbr; omega
    have c3 := hu3.cell (p := ⟨w.heap.size, 3, none⟩) id (World.cell?_alloc_new _ _ _ _)
    have f3 := hu3.frozen (p := ⟨w.heap.size, 3, none⟩) id (by simp)
    rw [World.frozen?_alloc_at _ _ _ _ rfl] at f3
    have hm4 := hm3.keep0 hu3
    have hc1 := hu3.cell (p := ⟨w.heap.size, 1, none⟩) id (World.cell?_alloc_new _ _ _ _)
    have hc2 := hu3.cell (p := ⟨w.heap.size, 2, none⟩) id hck
    have hu30 : Upd0 w w3 := ((Upd.refl _ _).alloc _).trans hu3
    go_wp2_with fail
    go_ret2
    have hs1 : Upd (fun x => x = w.heap.size) w3 (w3.setCell ⟨w.heap.size, 3, none⟩ (.pointer (some ⟨pr, 0, none⟩))) := (Upd.refl _ _).setCell _ _ (fun _ => rfl)
    refine ⟨w.heap.size, rfl, ?_, hu30.setCell _ _ (fun h => by exact absurd h (Nat.lt_irrefl _))⟩
    rw [← Hn.out]
    have ne : ∀ i, i ≠ 3 → (⟨w.heap.size, 3, none⟩ : Addr) ≠ ⟨w.heap.size, i, none⟩ := fun i hi e => by cases e; exact hi rfl
    refine ⟨⟨q, b, c, ⟨?_, hm4.nat.keep hs1 (by omega) (by omega)⟩, by rw [World.size_setCell]; omega, by rw [World.size_setCell]; omega⟩, by rw [World.size_setCell]; omega, Nat.le_refl _, Hn.out, h1, hn2, ?_, fun _ => ⟨k, pr, br, cr, ?_, by rw [Hk.out]; exact HK.out, World.cell?_setCell_same _ _ _ c3, hr.keep hs1 (by omega) (by omega), by rw [World.size_setCell]; exact hr.hp, by rw [World.size_setCell]; exact hr.hb⟩⟩
    · rw [World.cell?_setCell_other _ _ _ _ (ne 0 (by omega))]; exact hm4.hm
    · rw [World.cell?_setCell_other _ _ _ _ (ne 1 (by omega)), show decide (M % 2 = 1) = true by rw [HO.out]; rfl]; exact hc1
    · rw [World.cell?_setCell_other _ _ _ _ (ne 2 (by omega))]; exact hc2

set_option maxRecDepth 100000 in
set_option maxHeartbeats 1000000 in
theorem resetToBytes_any (p b c m X : Nat) (a : Option Addr) (len cx : Nat) (f : Nat → Nat) (w : World) (hx : NatAt w p b c m X) (hl : len ≤ 100000) (hf : ∀ i, i < len → f i < 256) (hs : Sl .u8 w a len cx f) (hne : 0 < len → ∀ x off, a = some ⟨x, off, none⟩ → x ≠ b ∧ x ≠ p) :
    Calls Try.prog 104 #[.pointer (some ⟨p, 0, none⟩), .slice a len cx] w fun e w' => e = .returned (.pointer (some ⟨p, 0, none⟩)) ∧ Grown w p b (nl (be f len)) (be f len) w' := by
  have e8 : (((len : Int) + 8 - 1) / 8) = (((len + 7) / 8 : Nat) : Int) := by omega
  have k1 := reset_any p b c m X ((len + 7) / 8) w hx (by omega)
  rw [← e8] at k1
  replace k1 := Lib.hid k1
  clear e8
  go_enter Try.func104, Try.ntmps104
  go_wp2_with fail
  with_reducible refine k1.out.mono ?_
  rintro e w1 ⟨rfl, b1, c1, hx1, hb1, hu1⟩
  have hs1 : Sl .u8 w1 a len cx f := ⟨hs.le, by
    rcases Nat.eq_zero_or_pos len with h0 | h0
    · subst h0; exact .nil _ _ _
    · obtain ⟨x, off, rfl, _⟩ := hs.rd.open h0
      exact hs.rd.keepS hu1 (by have := hne h0 x off rfl; omega), hs.nil⟩
  have hne1 : 0 < len → ∀ x off, a = some ⟨x, off, none⟩ → x ≠ b1 := fun h0 x off h => by
    obtain ⟨x', off', h', hc⟩ := hs.rd.open h0
    rw [h] at h'
    cases h'
    have hlt : x < w.heap.size := World.block_lt_of_cell? _ _ (hc 0 h0)
    have := hne h0 x off h
    rcases hb1 with h2 | h2 <;> omega
  have k2 := Lib.hid (setBytes_any p b1 c1 ((len + 7) / 8) a len cx f w1 hx1 (by omega) hf hs1 hne1)
  go_wp2_with fail
  with_reducible refine k2.out.mono ?_
  rintro e w2 ⟨rfl, hx2, hu2⟩
  go_wp2_with fail
  with_reducible refine (trim_any p b1 c1 ((len + 7) / 8) (be f len) w2 hx2).mono ?_
  rintro e w3 ⟨rfl, hx3, hu3⟩
  go_wp2_with fail
  go_ret
  exact ⟨rfl, b1, c1, hx3, hb1, (hu1.then hu2 (fun i hi h => by rcases hb1 with h' | h' <;> omega)).then hu3 (fun i hi h => .inl h)⟩
theorem Sl.blk {w : World} {a : Option Addr} {n c : Nat} {f : Nat → Nat} (hs : Sl .u8 w a n c f) (h0 : 0 < n) {x off : Nat} (h : a = some ⟨x, off, none⟩) : x < w.heap.size := by
  obtain ⟨x', off', h', hc⟩ := hs.rd.open h0
  rw [h] at h'
  cases h'
  exact World.block_lt_of_cell? _ _ (hc 0 h0)
set_option maxRecDepth 100000 in
set_option maxHeartbeats 1000000 in
theorem NewModulus_yes {a : Option Addr} {n c M : Nat} {w : World} (hn : n ≤ 100000) (h : Bs w a n c M) (hM : 1 < M) :
    Calls Try.prog 109 #[.slice a n c] w (RetMod w M) := by
  have hnl : nl M ≤ 16384 := by have := h.blen; unfold nl; omega
  obtain ⟨f, hf, hs, HB⟩ := h
  replace HB := Lib.hid HB
  go_enter Try.func109, Try.ntmps109
  go_wp2_with fail
  with_reducible refine (newNat_any w).mono ?_
  rintro e w1 ⟨rfl, hx1, hu1, hz1⟩
  replace hz1 : w.heap.size + 2 ≤ w1.heap.size := by omega
  have k1 := resetToBytes_any (w.heap.size + 1) w.heap.size 32 0 0 a n c f w1 hx1 hn hf (hs.keep hu1) (fun h0 x off h => by have := hs.blk h0 h; omega)
  rw [HB.out] at k1
  replace k1 := Lib.hid k1
  go_wp2_with fail
  with_reducible refine k1.out.mono ?_
  rintro e w2 ⟨rfl, b2, c2, hx2, hb2, hu2⟩
  have hu12 : Upd0 w w2 := hu1.then hu2 (fun i hi h => by omega)
  go_wp2_with fail
  with_reducible refine (newModulus_yes _ b2 c2 M w2 hx2 hM hnl).mono ?_
  rintro e w3 ⟨mp, rfl, hmod, hu3⟩
  go_wp2_with fail
  go_ret2
  exact ⟨mp, rfl, hmod, hu12.trans hu3⟩
set_option maxRecDepth 100000 in
set_option maxHeartbeats 1000000 in
theorem NewModulus_no {a : Option Addr} {n c M : Nat} {w : World} (hn : n ≤ 100000) (h : Bs w a n c M) (hM : ¬ 1 < M) :
    Calls Try.prog 109 #[.slice a n c] w (RetNoMod w) := by
  have hnl : nl M ≤ 16384 := by have := h.blen; unfold nl; omega
  obtain ⟨f, hf, hs, HB⟩ := h
  replace HB := Lib.hid HB
  go_enter Try.func109, Try.ntmps109
  go_wp2_with fail
  with_reducible refine (newNat_any w).mono ?_
  rintro e w1 ⟨rfl, hx1, hu1, hz1⟩
  replace hz1 : w.heap.size + 2 ≤ w1.heap.size := by omega
  have k1 := resetToBytes_any (w.heap.size + 1) w.heap.size 32 0 0 a n c f w1 hx1 hn hf (hs.keep hu1) (fun h0 x off h => by have := hs.blk h0 h; omega)
  rw [HB.out] at k1
  replace k1 := Lib.hid k1
  go_wp2_with fail
  with_reducible refine k1.out.mono ?_
  rintro e w2 ⟨rfl, b2, c2, hx2, hb2, hu2⟩
  have hu12 : Upd0 w w2 := hu1.then hu2 (fun i hi h => by omega)
  go_wp2_with fail
  with_reducible refine (newModulus_no _ b2 c2 _ M w2 hx2 hM).mono ?_
  rintro e w3 ⟨t, x, rfl, hu3⟩
  go_wp2_with fail
  go_ret2
  exact ⟨t, x, rfl, hu12.trans hu3⟩
end Go.Proofs.Ytpojonfopoobpaa

namespace Go.Proofs.Ytpojonfopoobpaa
open Go.RowKit

theorem clone_bs {a : Option Addr} {n c N : Nat} {w : World} (hn : n ≤ 1048576) (h : Bs w a n c N) : Calls Try.prog 57 #[.slice a n c] w (RetBs w n N) := by
  obtain ⟨f, h1, h2, rfl⟩ := h
  exact (clone_any a n c f w hn h2).mono fun _ _ ⟨a1, c1, h3, h4, h5⟩ => ⟨a1, c1, h3, ⟨f, h1, h4, rfl⟩, h5⟩
/-- A modulus and true are returned. -/
def RetModB (w : World) (M : Nat) (e : Ending) (w' : World) : Prop := ∃ mp, e = .returned (.tuple #[.pointer (some ⟨mp, 0, none⟩), .bool true]) ∧ ModAt w' w'.heap.size mp (nl M) M ∧ Upd0 w w'
/-- No modulus and false are returned. -/
def RetModN (w : World) (e : Ending) (w' : World) : Prop := e = .returned (.tuple #[.pointer none, .bool false]) ∧ Upd0 w w'
set_option maxRecDepth 100000 in
set_option maxHeartbeats 1000000 in
theorem iModulus_yes {a : Option Addr} {n c M : Nat} {w : World} (hn : n ≤ 100000) (h : Bs w a n c M) (hM : 1 < M) :
    Calls Try.prog 67 #[.slice a n c] w (RetModB w M) := by
  go_enter Try.func67, Try.ntmps67
  go_wp2_with fail
  with_reducible refine (clone_bs (by omega) h).mono ?_
  rintro e w1 ⟨a1, c1, rfl, h1, hu1⟩
  go_wp2_with fail
  with_reducible refine (NewModulus_yes hn h1 hM).mono ?_
  rintro e w2 ⟨mp, rfl, hmod, hu2⟩
  go_wp2_with fail
  go_quiet (fail)
  rename_i nq
  go_wp2_with fail
  go_ret2
  exact ⟨mp, rfl, hmod.keep0 ((Upd.refl _ _).drewN nq), (hu1.trans hu2).drewN nq⟩
set_option maxRecDepth 100000 in
set_option maxHeartbeats 1000000 in
theorem iModulus_no {a : Option Addr} {n c M : Nat} {w : World} (hn : n ≤ 100000) (h : Bs w a n c M) (hM : ¬ 1 < M) :
    Calls Try.prog 67 #[.slice a n c] w (RetModN w) := by
  go_enter Try.func67, Try.ntmps67
  go_wp2_with fail
  with_reducible refine (clone_bs (by omega) h).mono ?_
  rintro e w1 ⟨a1, c1, rfl, h1, hu1⟩
  go_wp2_with fail
  with_reducible refine (NewModulus_no hn h1 hM).mono ?_
  rintro e w2 ⟨t, x, rfl, hu2⟩
  go_wp2_with fail
  go_quiet (fail)
  rename_i nq
  go_wp2_with fail
  go_ret2
  exact ⟨rfl, (hu1.trans hu2).drewN nq⟩
theorem mBitLen {s mp n M : Nat} {w : World} (h : ModAt w s mp n M) : Calls Try.prog 76 #[.pointer (some ⟨mp, 0, none⟩)] w fun e w' => e = .returned (.int .i64 (blen M)) ∧ w = w' := by
  obtain ⟨q, b, c, hm, _, _⟩ := h.ex
  exact modBitLen_any mp q b c n M w hm
theorem ModAt.bl {s mp n M : Nat} {w : World} (h : ModAt w s mp n M) : blen M ≤ 1048576 := by
  have h1 := h.hn
  have h2 := h.hn2
  rw [h1] at h2
  unfold nl at h2
  omega
set_option maxHeartbeats 400000 in
theorem mSize {s mp n M : Nat} {w : World} (h : ModAt w s mp n M) : Calls Try.prog 75 #[.pointer (some ⟨mp, 0, none⟩)] w fun e w' => e = .returned (.int .i64 (nb M)) ∧ w = w' := by
  have hb := h.bl
  have H8 : Hid ((((blen M : Nat) : Int) + 7) / 8 = ((nb M : Nat) : Int)) := by show _ = _; unfold nb; omega
  have k1 := Lib.hid (mBitLen h)
  clear h
  go_enter Try.func75, Try.ntmps75
  go_wp2_with fail
  with_reducible refine k1.out.mono ?_
  rintro e w' ⟨rfl, rfl⟩
  go_wp2_with fail
  go_ret
  exact ⟨ret_int H8.out, rfl⟩
/-- Size and bits of a modulus, where it is one. -/
def RetSz (w : World) (M : Nat) (e : Ending) (w' : World) : Prop :=
  (1 < M → e = .returned (.tuple #[.int .i64 (nb M), .int .i64 (blen M), .bool true])) ∧ (¬ 1 < M → e = .returned (.tuple #[.int .i64 0, .int .i64 0, .bool false])) ∧ Upd0 w w'
set_option maxRecDepth 100000 in
set_option maxHeartbeats 1000000 in
theorem iModulusSize_yes {a : Option Addr} {n c M : Nat} {w : World} (hn : n ≤ 100000) (h : Bs w a n c M) (hM : 1 < M) :
    Calls Try.prog 44 #[.slice a n c] w fun e w' => e = .returned (.tuple #[.int .i64 (nb M), .int .i64 (blen M), .bool true]) ∧ Upd0 w w' := by
  go_enter Try.func44, Try.ntmps44
  go_wp2_with fail
  with_reducible refine (iModulus_yes hn h hM).mono ?_
  rintro e w1 ⟨mp, rfl, hmod, hu1⟩
  have k1 := Lib.hid (mSize hmod)
  have k2 := Lib.hid (mBitLen hmod)
  clear hmod
  go_wp2_with fail
  with_reducible refine k1.out.mono ?_
  rintro e w' ⟨rfl, rfl⟩
  go_wp2_with fail
  with_reducible refine k2.out.mono ?_
  rintro e w' ⟨rfl, rfl⟩
  go_wp2_with fail
  go_ret3
  exact ⟨rfl, hu1⟩
set_option maxRecDepth 100000 in
set_option maxHeartbeats 1000000 in
theorem iModulusSize_no {a : Option Addr} {n c M : Nat} {w : World} (hn : n ≤ 100000) (h : Bs w a n c M) (hM : ¬ 1 < M) :
    Calls Try.prog 44 #[.slice a n c] w fun e w' => e = .returned (.tuple #[.int .i64 0, .int .i64 0, .bool false]) ∧ Upd0 w w' := by
  go_enter Try.func44, Try.ntmps44
  go_wp2_with fail
  with_reducible refine (iModulus_no hn h hM).mono ?_
  rintro e w1 ⟨rfl, hu1⟩
  go_wp2_with fail
  go_ret3
  exact ⟨rfl, hu1⟩
set_option maxRecDepth 100000 in
set_option maxHeartbeats 1000000 in
theorem sModulusSize_yes {a : Option Addr} {n c M : Nat} {w : World} (hn : n ≤ 4000) (h : Bs w a n c M) (hM : 1 < M) :
    Calls Try.prog 31 #[.slice a n c] w fun e w' => e = .returned (.tuple #[.int .i64 (nb M), .int .i64 (blen M), .bool true]) ∧ Upd0 w w' := by
  have hd := h.nd
  have hb := h.blen
  have H8 : Hid ((((blen M : Nat) : Int) + 7) / 8 = ((nb M : Nat) : Int)) := by show _ = _; unfold nb; omega
  go_enter Try.func31, Try.ntmps31
  go_wp2_with fail
  with_reducible refine (sModulus_yes (by omega) h hM).mono ?_
  rintro e w1 ⟨a1, c1, rfl, hs1, hu1⟩
  have k1 := Lib.hid (bits_any a1 c1 M w1 (by omega) hs1.rd)
  go_wp2_with fail
  with_reducible refine k1.out.mono ?_
  rintro e w' ⟨rfl, rfl⟩
  go_wp2_with fail
  with_reducible refine k1.out.mono ?_
  rintro e w' ⟨rfl, rfl⟩
  go_wp2_with fail
  go_ret3
  exact ⟨by rw [← H8.out]; rfl, hu1⟩
set_option maxRecDepth 100000 in
set_option maxHeartbeats 1000000 in
theorem sModulusSize_no {a : Option Addr} {n c M : Nat} {w : World} (hn : n ≤ 4000) (h : Bs w a n c M) (hM : ¬ 1 < M) :
    Calls Try.prog 31 #[.slice a n c] w fun e w' => e = .returned (.tuple #[.int .i64 0, .int .i64 0, .bool false]) ∧ Upd0 w w' := by
  go_enter Try.func31, Try.ntmps31
  go_wp2_with fail
  with_reducible refine (sModulus_no (by omega) h hM).mono ?_
  rintro e w1 ⟨a1, c1, rfl, hs1, hu1⟩
  go_wp2_with fail
  go_ret3
  exact ⟨rfl, hu1⟩
end Go.Proofs.Ytpojonfopoobpaa
