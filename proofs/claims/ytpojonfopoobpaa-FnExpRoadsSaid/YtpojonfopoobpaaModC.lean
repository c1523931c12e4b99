/-
  Contract: Mod.
-/
import Derived.Test.YtpojonfopoobpaaShI
namespace Go.Proofs.Ytpojonfopoobpaa
open Go.RowKit

set_option maxRecDepth 100000 in
set_option maxHeartbeats 8000000 in
theorem natMod_any {p b c m X0 q b' c' k Y s mp n M : Nat} {w : World} (hx : NatAt w p b c m X0) (hy : NatAt w q b' c' k Y) (hm : ModAt w s mp n M) (hp : s ≤ p) (hb : s ≤ b) (h1 : q ≠ p) (h2 : q ≠ b) (h3 : b' ≠ p) (h4 : b' ≠ b) :
    Calls Try.prog 68 #[.pointer (some ⟨p, 0, none⟩), .pointer (some ⟨q, 0, none⟩), .pointer (some ⟨mp, 0, none⟩)] w fun e w' => e = .returned (.pointer (some ⟨p, 0, none⟩)) ∧ Grown w p b n (Y % M) w' := by
  obtain ⟨qm, bm, cm, hmn, hq, hbm⟩ := hm.ex
  have hmp := hm.hp
  have hms := hm.hs
  have hM1 := hm.h1
  have hn0 := hm.npos
  have hlp := hx.hp
  have hlb := hx.hb
  have hlq := hy.hp
  have hlb' := hy.hb
  have lk := hy.le
  have sk := hy.sm
  have ln := hmn.nat.le
  have sn := hmn.nat.sm
  obtain ⟨st, Hst⟩ : ∃ st, Hid (st = min (n - 1) k) := ⟨_, rfl⟩
  have hs1 : st ≤ n - 1 := by rw [Hst.out]; omega
  have hs2 : st ≤ k := by rw [Hst.out]; omega
  obtain ⟨d, hd⟩ : ∃ d, d + st = k := ⟨k - st, by omega⟩
  obtain ⟨Z, HZ⟩ : ∃ Z, Hid (Z = Y / W64 ^ d) := ⟨_, rfl⟩
  have HZs : Hid (Z < W64 ^ st) := by
    show _ < _
    rw [HZ.out]
    exact Nat.div_lt_of_lt_mul (by rw [← Nat.pow_add, hd]; exact hy.lt)
  have HZl : Hid (Z < W64 ^ n) := Nat.lt_of_lt_of_le HZs.out (Nat.pow_le_pow_right W64_pos (by omega))
  have HZ0 : Hid (mixN n st 0 Z = 0) := by
    refine dg_ext W64_pos (mixN_lt _ _ _ _) (Nat.pow_pos W64_pos) fun i hi => ?_
    rw [dg_mixN hi]
    split
    · rfl
    · rw [dg_of_lt' W64_pos HZs.out (by omega), dg_of_lt (Nat.pow_pos W64_pos)]
  have HZM : Hid (Y / W64 ^ d % M = Z) := by
    show _ = _
    rw [HZ.out]
    have h := mod_head (s := st) hy.lt hm.hn.symm hn0 hs1 hs2
    rw [show k - st = d by omega] at h
    exact h
  go_enter Try.func68, Try.ntmps68
  go_wp2_with fail
  with_reducible refine (resetFor_any p b c m X0 mp qm bm cm n M w hx hmn).mono ?_
  rintro e w1 ⟨rfl, b1, c1, hx1, hb1, hu1⟩
  have hy1 := hy.keep hu1 (by omega) (by omega)
  have hmn1 := hmn.keep hu1 (by omega) (by omega) (by omega)
  have ca1 := hy1.hd
  have ca2 := hmn1.hm
  have ca3 := hmn1.nat.hd
  by_cases hlt : (k : Int) - 1 < (n : Int) - 2
  · have hst : st = k := by rw [Hst.out]; omega
    have j1 : (n : Int) - 2 = (n : Int) - 2 := rfl
    go_wp2_with fail
    clear hlt
    clear ca1 ca2 ca3
    have hb1' : b1 = b ∨ w.heap.size ≤ b1 := hb1
    go_loopw [7, 9] (fun i j wr => ∃ t : Nat, t ≤ st ∧ j = .int .i64 ((t : Int) - 1) ∧ i = .int .i64 ((d : Int) + (t : Int) - 1) ∧ NatAt wr p b1 c1 n (mixN n t 0 Z) ∧ Upd (fun k => k = p ∨ k = b) w wr) (fun _ j _ => (intOf j + 1).toNat)
    case atStart => exact ⟨st, Nat.le_refl _, by first | rfl | (congr 1 <;> omega), by congr 1 <;> omega, by rw [HZ0.out]; exact hx1, hu1⟩
    case round =>
      clear hx1 hu1
      obtain ⟨t, ht, hj, hi, hxr, hu⟩ := hrel
      rcases Nat.eq_zero_or_pos t with h0 | h0
      · subst h0
        subst hj
        subst hi
        rw [mixN_zero HZl.out, ← HZM.out] at hxr
        go_wp2_with fail
        go_loopw [7] (fun i wr => ∃ t : Nat, t ≤ k ∧ i = .int .i64 ((t : Int) - 1) ∧ NatAt wr p b1 c1 n (Y / W64 ^ t % M) ∧ Upd (fun k => k = p ∨ k = b) w wr) (fun i _ => (intOf i + 1).toNat)
        case atStart => exact ⟨d, by omega, by congr 1 <;> omega, hxr, hu⟩
        case round =>
          clear hxr hu
          obtain ⟨t, ht, hi, hxr, hu⟩ := hrel
          rcases Nat.eq_zero_or_pos t with h0 | h0
          · subst h0
            subst hi
            rw [Nat.pow_zero, Nat.div_one] at hxr
            go_wp2_with fail
            go_ret
            exact ⟨rfl, b1, c1, hxr, hb1, hu⟩
          · obtain ⟨j, rfl⟩ : ∃ j, t = j + 1 := ⟨t - 1, by omega⟩
            replace hi := hi.trans (show Value.int .i64 (((j + 1 : Nat) : Int) - 1) = .int .i64 (j : Int) by congr 1; omega)
            subst hi
            have hyr := hy.keep hu (by omega) (by omega)
            have hmr := hmn.keep hu (by omega) (by omega) (by omega)
            obtain ⟨y, hy1, hyl, HY⟩ := hyr.limb (show j < k by omega)
            have hyc := hyr.hd
            have HV : Hid (Y / W64 ^ (j + 1) % M < M) := Nat.mod_lt _ (by omega)
            have k1 := shiftIn_any p b1 c1 n _ y mp qm bm cm M _ hxr hmr (by omega) (by omega) (by omega) HV.out hyl
            rw [HY.out, mod_limb, ← HY.out] at k1
            replace k1 := Lib.hid k1
            have i1 : (j : Int) < (k : Int) := by omega
            have i2 : (0 : Int) ≤ (j : Int) := by omega
            have i3 : ((j : Int)).toNat = j := by omega
            clear HV
            go_wp2_with fail
            with_reducible refine k1.out.mono ?_
            rintro e w3 ⟨rfl, hx3, hu3⟩
            go_wp2_with fail
            go_roundw
            case rel => exact ⟨_, _, _, _, _, _, _, _, _, _, _, _, _, _, _, ⟨j, by omega, rfl, hx3, hu.then hu3 (fun i hi h => by rcases hb1 with h' | h' <;> omega)⟩, rfl⟩
            case measure => simp [intOf]
      · obtain ⟨j, rfl⟩ : ∃ j, t = j + 1 := ⟨t - 1, by omega⟩
        replace hj := hj.trans (show Value.int .i64 (((j + 1 : Nat) : Int) - 1) = .int .i64 (j : Int) by congr 1; omega)
        replace hi := hi.trans (show Value.int .i64 ((d : Int) + ((j + 1 : Nat) : Int) - 1) = .int .i64 ((d + j : Nat) : Int) by congr 1; omega)
        subst hj
        subst hi
        obtain ⟨l, Hl⟩ : ∃ l, Hid (l = d + j) := ⟨_, rfl⟩
        rw [← Hl.out]
        have hlk : l < k := by rw [Hl.out]; omega
        have hyr := hy.keep hu (by omega) (by omega)
        obtain ⟨y, hy1, hyl, HY⟩ := hyr.limb hlk
        have hyc := hyr.hd
        have hxc := hxr.hd
        have hx1 := hxr.own.cell j (by omega)
        have hx2 := hxr.own.free j (by omega)
        have i1 : (l : Int) < (k : Int) := by omega
        have i2 : (0 : Int) ≤ (l : Int) := by omega
        have i3 : ((l : Int)).toNat = l := by omega
        have i4 : (j : Int) < (n : Int) := by omega
        have i5 : (0 : Int) ≤ (j : Int) := by omega
        have i6 : ((j : Int)).toNat = j := by omega
        go_wp2_with fail
        go_still_tail 13, (by kernel_rfl)
        change wpList _ _ _ _ _ wr.drew
        go_wp2_with fail
        go_roundw
        case rel => exact ⟨j, by omega, rfl, by congr 1; have := Hl.out; omega, hxr.drew.put (by omega) y (mixN_lt _ _ _ _) (fun i hi => by
            rw [dg_mixN hi, dg_mixN hi]
            by_cases e : i = j
            · subst e
              rw [if_pos rfl, if_neg (by omega), HY.out, Hl.out, HZ.out, dg_div]
            · rw [if_neg e]
              by_cases e2 : i < j
              · rw [if_pos e2, if_pos (by omega)]
              · rw [if_neg e2, if_neg (by omega)]), hu.drew.setCell _ _ (fun h => by rcases hb1 with h' | h'; exact .inr h'; exact absurd h (Nat.not_lt.2 h'))⟩
        case measure => simp [intOf]
  · have hst : (st : Int) - 1 = (n : Int) - 2 := by rw [Hst.out]; omega
    go_wp2_with fail
    clear hlt
    clear ca1 ca2 ca3
    have hb1' : b1 = b ∨ w.heap.size ≤ b1 := hb1
    go_loopw [7, 9] (fun i j wr => ∃ t : Nat, t ≤ st ∧ j = .int .i64 ((t : Int) - 1) ∧ i = .int .i64 ((d : Int) + (t : Int) - 1) ∧ NatAt wr p b1 c1 n (mixN n t 0 Z) ∧ Upd (fun k => k = p ∨ k = b) w wr) (fun _ j _ => (intOf j + 1).toNat)
    case atStart => exact ⟨st, Nat.le_refl _, by first | rfl | (congr 1 <;> omega), by congr 1 <;> omega, by rw [HZ0.out]; exact hx1, hu1⟩
    case round =>
      clear hx1 hu1
      obtain ⟨t, ht, hj, hi, hxr, hu⟩ := hrel
      rcases Nat.eq_zero_or_pos t with h0 | h0
      · subst h0
        subst hj
        subst hi
        rw [mixN_zero HZl.out, ← HZM.out] at hxr
        go_wp2_with fail
        go_loopw [7] (fun i wr => ∃ t : Nat, t ≤ k ∧ i = .int .i64 ((t : Int) - 1) ∧ NatAt wr p b1 c1 n (Y / W64 ^ t % M) ∧ Upd (fun k => k = p ∨ k = b) w wr) (fun i _ => (intOf i + 1).toNat)
        case atStart => exact ⟨d, by omega, by congr 1 <;> omega, hxr, hu⟩
        case round =>
          clear hxr hu
          obtain ⟨t, ht, hi, hxr, hu⟩ := hrel
          rcases Nat.eq_zero_or_pos t with h0 | h0
          · subst h0
            subst hi
            rw [Nat.pow_zero, Nat.div_one] at hxr
            go_wp2_with fail
            go_ret
            exact ⟨rfl, b1, c1, hxr, hb1, hu⟩
          · obtain ⟨j, rfl⟩ : ∃ j, t = j + 1 := ⟨t - 1, by omega⟩
            replace hi := hi.trans (show Value.int .i64 (((j + 1 : Nat) : Int) - 1) = .int .i64 (j : Int) by congr 1; omega)
            subst hi
            have hyr := hy.keep hu (by omega) (by omega)
            have hmr := hmn.keep hu (by omega) (by omega) (by omega)
            obtain ⟨y, hy1, hyl, HY⟩ := hyr.limb (show j < k by omega)
            have hyc := hyr.hd
            have HV : Hid (Y / W64 ^ (j + 1) % M < M) := Nat.mod_lt _ (by omega)
            have k1 := shiftIn_any p b1 c1 n _ y mp qm bm cm M _ hxr hmr (by omega) (by omega) (by omega) HV.out hyl
            rw [HY.out, mod_limb, ← HY.out] at k1
            replace k1 := Lib.hid k1
            have i1 : (j : Int) < (k : Int) := by omega
            have i2 : (0 : Int) ≤ (j : Int) := by omega
            have i3 : ((j : Int)).toNat = j := by omega
            clear HV
            go_wp2_with fail
            with_reducible refine k1.out.mono ?_
            rintro e w3 ⟨rfl, hx3, hu3⟩
            go_wp2_with fail
            go_roundw
            case rel => exact ⟨_, _, _, _, _, _, _, _, _, _, _, _, _, _, _, ⟨j, by omega, rfl, hx3, hu.then hu3 (fun i hi h => by rcases hb1 with h' | h' <;> omega)⟩, rfl⟩
            case measure => simp [intOf]
      · obtain ⟨j, rfl⟩ : ∃ j, t = j + 1 := ⟨t - 1, by omega⟩
        replace hj := hj.trans (show Value.int .i64 (((j + 1 : Nat) : Int) - 1) = .int .i64 (j : Int) by congr 1; omega)
        replace hi := hi.trans (show Value.int .i64 ((d : Int) + ((j + 1 : Nat) : Int) - 1) = .int .i64 ((d + j : Nat) : Int) by congr 1; omega)
        subst hj
        subst hi
        obtain ⟨l, Hl⟩ : ∃ l, Hid (l = d + j) := ⟨_, rfl⟩
        rw [← Hl.out]
        have hlk : l < k := by rw [Hl.out]; omega
        have hyr := hy.keep hu (by omega) (by omega)
        obtain ⟨y, hy1, hyl, HY⟩ := hyr.limb hlk
        have hyc := hyr.hd
        have hxc := hxr.hd
        have hx1 := hxr.own.cell j (by omega)
        have hx2 := hxr.own.free j (by omega)
        have i1 : (l : Int) < (k : Int) := by omega
        have i2 : (0 : Int) ≤ (l : Int) := by omega
        have i3 : ((l : Int)).toNat = l := by omega
        have i4 : (j : Int) < (n : Int) := by omega
        have i5 : (0 : Int) ≤ (j : Int) := by omega
        have i6 : ((j : Int)).toNat = j := by omega
        go_wp2_with fail
        go_still_tail 13, (by kernel_rfl)
        change wpList _ _ _ _ _ wr.drew
        go_wp2_with fail
        go_roundw
        case rel => exact ⟨j, by omega, rfl, by congr 1; have := Hl.out; omega, hxr.drew.put (by omega) y (mixN_lt _ _ _ _) (fun i hi => by
            rw [dg_mixN hi, dg_mixN hi]
            by_cases e : i = j
            · subst e
              rw [if_pos rfl, if_neg (by omega), HY.out, Hl.out, HZ.out, dg_div]
            · rw [if_neg e]
              by_cases e2 : i < j
              · rw [if_pos e2, if_pos (by omega)]
              · rw [if_neg e2, if_neg (by omega)]), hu.drew.setCell _ _ (fun h => by rcases hb1 with h' | h'; exact .inr h'; exact absurd h (Nat.not_lt.2 h'))⟩
        case measure => simp [intOf]
end Go.Proofs.Ytpojonfopoobpaa
