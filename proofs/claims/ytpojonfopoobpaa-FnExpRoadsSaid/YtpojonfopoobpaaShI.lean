/-
  Contracts: shiftIn, Mod.
-/
import Derived.Test.YtpojonfopoobpaaModI
import Derived.Test.YtpojonfopoobpaaPrd
namespace Go.Proofs.Ytpojonfopoobpaa
open Go.RowKit

/-- One limb of a number is written. -/
theorem NatAt.put {w : World} {p b c n X : Nat} (hx : NatAt w p b c n X) {i : Nat} (hi : i < n) (v : Nat) {Y : Nat} (hY : Y < W64 ^ n) (h : ∀ j, j < n → (if j = i then v else dg W64 X j) = dg W64 Y j) : NatAt (w.setCell ⟨b, i, none⟩ (.int .u64 (v : Nat))) p b c n Y :=
  hx.wrote (((Wrote.start hx.own).set hi v rfl).congr h) hY
/-- The limbs below k are those of T, the others those of P. -/
def mixN (n k T P : Nat) : Nat := ofD W64 (fun i => if i < k then dg W64 T i else dg W64 P i) n
theorem mixN_lt (n k T P : Nat) : mixN n k T P < W64 ^ n := ofD_lt W64_pos fun i _ => by split <;> exact dg_lt W64_pos _ _
theorem dg_mixN {n k T P j : Nat} (hj : j < n) : dg W64 (mixN n k T P) j = if j < k then dg W64 T j else dg W64 P j :=
  dg_ofD W64_pos (f := fun i => if i < k then dg W64 T i else dg W64 P i) (fun i _ => by show (if i < k then _ else _) < _; split <;> exact dg_lt W64_pos _ _) j hj
theorem mixN_zero {n T P : Nat} (hP : P < W64 ^ n) : mixN n 0 T P = P := dg_ext W64_pos (mixN_lt _ _ _ _) hP fun i hi => by rw [dg_mixN hi, if_neg (by omega)]
theorem mixN_all {n T P : Nat} (hT : T < W64 ^ n) : mixN n n T P = T := dg_ext W64_pos (mixN_lt _ _ _ _) hT fun i hi => by rw [dg_mixN hi, if_pos hi]
theorem NatAt.mix {w : World} {p b c n k T P : Nat} (hx : NatAt w p b c n (mixN n k T P)) (hk : k < n) {v : Nat} (hv : v = dg W64 T k) : NatAt (w.setCell ⟨b, k, none⟩ (.int .u64 (v : Nat))) p b c n (mixN n (k + 1) T P) :=
  hx.put hk v (mixN_lt _ _ _ _) fun j hj => by
    rw [dg_mixN hj, dg_mixN hj]
    by_cases e : j = k
    · subst e; rw [if_pos rfl, if_pos (by omega), hv]
    · rw [if_neg e]
      by_cases e2 : j < k
      · rw [if_pos e2, if_pos (by omega)]
      · rw [if_neg e2, if_neg (by omega)]
/-- Behind all but r bits of y. -/
def shV (V y M r : Nat) : Nat := (V * 2 ^ (64 - r) + y / 2 ^ r) % M
theorem shV_start {V y M : Nat} (hV : V < M) (hy : y < 18446744073709551616) : shV V y M 64 = V := by
  unfold shV
  rw [Nat.sub_self, Nat.pow_zero, Nat.mul_one, Nat.div_eq_of_lt (by exact hy), Nat.add_zero, Nat.mod_eq_of_lt hV]
theorem shV_step (V y M u : Nat) (hu : u < 64) : (2 * shV V y M (u + 1) + y / 2 ^ u % 2) % M = shV V y M u := by
  have h := bit_step V y M (63 - u) (by omega)
  unfold shV
  rw [show 64 - (63 - u) = u + 1 by omega, show 63 - (63 - u) = u by omega, show 63 - u + 1 = 64 - u by omega, show 64 - (64 - u) = u by omega] at h
  rw [show 64 - (u + 1) = 63 - u by omega]
  exact h
theorem shV_end (V y M : Nat) : shV V y M 0 = (V * W64 + y) % M := by
  unfold shV
  rw [Nat.sub_zero, Nat.pow_zero, Nat.div_one]; rfl
theorem shr_nat' (n t : Nat) : (n : Int) / 2 ^ t = ((n / 2 ^ t : Nat) : Int) := by simp
/-- One limb in the middle of a round. -/
theorem sh_limb {n V c M k l cy bo dm : Nat} (hk : k < n) (hM : M < W64 ^ n) (hl : l = dg W64 V k) (hc : cy = ccN V c k) (hb : bo = boN ((V + V + c) % W64 ^ n) M k) (hm : dm = dg W64 M k) :
    sumW l l cy = dg W64 ((V + V + c) % W64 ^ n) k ∧ carW l l cy = ccN V c (k + 1) ∧ difW (sumW l l cy) dm bo = dg W64 (subN n ((V + V + c) % W64 ^ n) M) k ∧ borW (sumW l l cy) dm bo = boN ((V + V + c) % W64 ^ n) M (k + 1) := by
  have h1 : sumW l l cy = dg W64 ((V + V + c) % W64 ^ n) k := by rw [dg_mod_lt W64_pos hk, cc_digit, hl, hc]
  refine ⟨h1, by rw [cc_carry, hl, hc], ?_, ?_⟩
  · rw [h1, hm, hb, sub_digit (Nat.mod_lt _ (Nat.pow_pos W64_pos)) hM hk]
  · rw [h1, hm, hb, sub_borrow]
set_option maxRecDepth 100000 in
set_option maxHeartbeats 8000000 in
theorem shiftIn_any (p b c n V y mp q bm cm M : Nat) (w : World) (hx : NatAt w p b c n V) (hm : MNat w mp q bm cm n M) (h1 : mp ≠ b) (h2 : q ≠ b) (h3 : bm ≠ b) (hV : V < M) (hy : y < 18446744073709551616) :
    Calls Try.prog 110 #[.pointer (some ⟨p, 0, none⟩), .int .u64 y, .pointer (some ⟨mp, 0, none⟩)] w fun e w' => e = .returned (.pointer (some ⟨p, 0, none⟩)) ∧ NatAt w' p b c n ((V * W64 + y) % M) ∧ Upd (fun k => k = b) w w' := by
  have hlM := hm.nat.lt
  have hlp := hx.hp
  have hlb := hx.hb
  have hlm := hm.hp
  have hlq := hm.nat.hp
  have hlbm := hm.nat.hb
  have lx := hx.le
  have lm := hm.nat.le
  have sx := hx.sm
  have smm := hm.nat.sm
  go_enter Try.func110, Try.ntmps110
  go_wp2_with fail
  with_reducible refine (newNat_any w).mono ?_
  rintro e w1 ⟨rfl, hx1, hu1, hz1⟩
  replace hz1 : w.heap.size + 2 ≤ w1.heap.size := by omega
  go_wp2_with fail
  with_reducible refine (resetFor_any (w.heap.size + 1) w.heap.size 32 0 0 mp q bm cm n M w1 hx1 (hm.keep0 hu1)).mono ?_
  rintro e w2 ⟨rfl, bd, cd, hd2, hbd2, hu2⟩
  obtain ⟨pd, Hp⟩ : ∃ pd, Hid (pd = w.heap.size + 1) := ⟨_, rfl⟩
  rw [← Hp.out] at hd2 ⊢
  have hpd : w.heap.size ≤ pd := by rw [Hp.out]; omega
  have hbd : w.heap.size ≤ bd := by rcases hbd2 with h | h <;> omega
  have hu02 : Upd0 w w2 := hu1.then hu2 (fun i hi h => by omega)
  clear hx1 hu1 hz1 hbd2 hu2 Hp
  have hx2 := hx.keep0 hu02
  have hm2 := hm.keep0 hu02
  have ca1 := hx2.hd
  have ca2 := hm2.hm
  have ca3 := hm2.nat.hd
  have ca4 := hd2.hd
  have ld := hd2.le
  have sd := hd2.sm
  have hu02' : Upd (fun k => k = b) w w2 := hu02.mono (fun _ _ h => h.elim)
  go_wp2_with fail
  clear ca1 ca2 ca3 ca4
  go_loopw [12, 13] (fun s i wr => ∃ r z P D : Nat, r ≤ 64 ∧ i = .int .i64 ((r : Int) - 1) ∧ s = .int .u64 z ∧ z ≤ 1 ∧ Hid (selN z P D = shV V y M r) ∧ NatAt wr p b c n P ∧ NatAt wr pd bd cd n D ∧ Upd (fun k => k = b) w wr) (fun _ i _ => (intOf i + 1).toNat)
  case atStart => exact ⟨64, 0, V, 0, by omega, rfl, rfl, by omega, by show _ = _; rw [selN_zero, shV_start hV hy], hx2, hd2, hu02'⟩
  case round =>
    clear hx2 hd2 hu02 hu02' hm2
    obtain ⟨r, z, P, D, hr, hi, rfl, hz, HS, hxr, hdr, hu⟩ := hrel
    rcases Nat.eq_zero_or_pos r with h0 | h0
    · subst h0
      subst hi
      have HF : Hid (selN z P D = (V * W64 + y) % M) := by show _ = _; rw [HS.out, shV_end]
      have k1 := assign_any p b c n P pd bd cd D z wr hxr hdr hz (fun h => by omega)
      rw [HF.out] at k1
      replace k1 := Lib.hid k1
      go_wp2_with fail
      with_reducible refine k1.out.mono ?_
      rintro e w3 ⟨rfl, hx3, hu3⟩
      go_wp2_with fail
      go_ret
      exact ⟨rfl, hx3, hu.trans hu3⟩
    · obtain ⟨u, rfl⟩ : ∃ u, r = u + 1 := ⟨r - 1, by omega⟩
      replace hi := hi.trans (show Value.int .i64 (((u + 1 : Nat) : Int) - 1) = .int .i64 (u : Int) by congr 1; omega)
      subst hi
      obtain ⟨Y, HY⟩ : ∃ Y, Hid (Y = y / 2 ^ u) := ⟨_, rfl⟩
      have e1 : (y : Int) / 2 ^ u = (Y : Int) := by rw [HY.out]; exact shr_nat' y u
      have e2 := and_one Y
      obtain ⟨t, Ht⟩ : ∃ t, Hid (t = Y % 2) := ⟨_, rfl⟩
      have ht : t ≤ 1 := by rw [Ht.out]; omega
      rw [← Ht.out] at e2
      obtain ⟨W, HW⟩ : ∃ W, Hid (W = selN z P D) := ⟨_, rfl⟩
      have HWM : Hid (W < M) := by show _ < _; rw [HW.out, HS.out]; exact Nat.mod_lt _ (by omega)
      obtain ⟨m, Hm⟩ : ∃ m, Hid (m = maskN z) := ⟨_, rfl⟩
      have hmask := fun w => ctMask_any z w hz
      rw [← Hm.out] at hmask
      replace hmask := Lib.hid hmask
      have hml : m < 18446744073709551616 := by rw [Hm.out]; exact maskN_lt z
      obtain ⟨T, HT⟩ : ∃ T, Hid (T = (W + W + t) % W64 ^ n) := ⟨_, rfl⟩
      obtain ⟨U, HU⟩ : ∃ U, Hid (U = subN n T M) := ⟨_, rfl⟩
      have hmr : MNat wr mp q bm cm n M := hm.keep hu h1 h2 h3
      go_wp2_with fail
      with_reducible refine (hmask.out _).mono ?_
      rintro e w' ⟨rfl, rfl⟩
      clear hmask
      go_wp2_with fail
      clear e1 e2
      go_loopw [14, 15, 17] (fun cy bo i wq => ∃ k c1 b1 : Nat, k ≤ n ∧ i = .int .i64 k ∧ cy = .int .u64 c1 ∧ bo = .int .u64 b1 ∧ c1 ≤ 1 ∧ b1 ≤ 1 ∧ Hid (c1 = ccN W t k) ∧ Hid (b1 = boN T M k) ∧ NatAt wq p b c n (mixN n k T P) ∧ NatAt wq pd bd cd n (mixN n k U D) ∧ Upd (fun k => k = b) w wq) (fun _ _ i _ => n - (intOf i).toNat)
      case atStart => exact ⟨0, t, 0, Nat.zero_le _, rfl, rfl, rfl, ht, by omega, (ccN_zero _ _).symm, (boN_zero _ _).symm, by rw [mixN_zero hxr.lt]; exact hxr, by rw [mixN_zero hdr.lt]; exact hdr, hu⟩
      case round =>
        clear hxr hdr hu hmr
        obtain ⟨k, c1, b1, hk, rfl, rfl, rfl, hc1, hb1, HC, HB, hxr, hdr, hu⟩ := hrel
        by_cases hlt : k < n
        · have hmr : MNat wr mp q bm cm n M := hm.keep hu h1 h2 h3
          obtain ⟨d1, hd1, hd1l, HD1⟩ := hxr.limb hlt
          obtain ⟨d2, hd2, hd2l, HD2⟩ := hdr.limb hlt
          have HL : Hid (xorW d1 (andW m (xorW d1 d2)) = dg W64 W k) := by
            show _ = _
            rw [Hm.out, mask_sel hz hd1l hd2l, HD1.out, HD2.out, dg_mixN hlt, dg_mixN hlt, if_neg (by omega), if_neg (by omega), ← dg_selN, HW.out]
          obtain ⟨l, Hl⟩ : ∃ l, Hid (l = xorW d1 (andW m (xorW d1 d2))) := ⟨_, rfl⟩
          have hll : l < 18446744073709551616 := by rw [Hl.out]; exact xorW_lt _ _
          have e1 := bits_xor d1 d2
          have e2 := bits_and m (xorW d1 d2)
          have e3 := bits_xor d1 (andW m (xorW d1 d2))
          rw [← Hl.out] at e3
          have i1 : (k : Int) < (n : Int) := by omega
          have i2 : (0 : Int) ≤ (k : Int) := by omega
          have i3 : ((k : Int)).toNat = k := by omega
          go_upto_block 3 with fail
          go_cut [14, 15] (fun s14 s15 wx => ∃ cv bv : Nat, s14 = .int .u64 cv ∧ s15 = .int .u64 bv ∧ cv ≤ 1 ∧ bv ≤ 1 ∧ Hid (cv = ccN W t (k + 1)) ∧ Hid (bv = boN T M (k + 1)) ∧ NatAt wx p b c n (mixN n (k + 1) T P) ∧ NatAt wx pd bd cd n (mixN n (k + 1) U D) ∧ Upd (fun k => k = b) w wx)
          case first =>
            go_wp2_with fail
            go_quiet (fail)
            rename_i nq
            replace hxr := hxr.drewN nq
            replace hdr := hdr.drewN nq
            replace hu := hu.drewN nq
            replace hmr := hmr.keep0 ((Upd.refl _ _).drewN nq)
            clear e1 e2 e3 hd1 hd2
            generalize wr.drewN nq = w3 at *
            obtain ⟨dm, hdm, hdml, HDM⟩ := hmr.nat.limb hlt
            have HL' : l = dg W64 W k := by rw [Hl.out]; exact HL.out
            have HB' : b1 = boN ((W + W + t) % W64 ^ n) M k := by rw [← HT.out]; exact HB.out
            have hS := sh_limb hlt hlM HL' HC.out HB' HDM.out
            clear HL' HB'
            rw [← HT.out, ← HU.out] at hS
            obtain ⟨sv, HSV⟩ : ∃ sv, Hid (sv = sumW l l c1) := ⟨_, rfl⟩
            obtain ⟨cv, HCV⟩ : ∃ cv, Hid (cv = carW l l c1) := ⟨_, rfl⟩
            rw [← HSV.out, ← HCV.out] at hS
            obtain ⟨dv, HDV⟩ : ∃ dv, Hid (dv = difW sv dm b1) := ⟨_, rfl⟩
            obtain ⟨bv, HBV⟩ : ∃ bv, Hid (bv = borW sv dm b1) := ⟨_, rfl⟩
            rw [← HDV.out, ← HBV.out] at hS
            have hsvl : sv < 18446744073709551616 := by rw [HSV.out]; exact sumW_lt _ _ _
            have hcvl : cv ≤ 1 := by rw [HCV.out]; exact carW_le hll hll hc1
            have hbvl : bv ≤ 1 := by rw [HBV.out]; exact borW_le _ _ _
            have kadd := fun w => bitsAdd_any l l c1 w hc1 hll hll
            rw [← HSV.out, ← HCV.out] at kadd
            replace kadd := Lib.hid kadd
            have ksub := fun w => bitsSub_any sv dm b1 w hb1 hsvl hdml
            rw [← HDV.out, ← HBV.out] at ksub
            replace ksub := Lib.hid ksub
            replace hS := Lib.hid hS
            have cx1 := hxr.own.cell k hlt
            have cx2 := hxr.own.free k hlt
            go_wp2_with fail
            with_reducible refine (kadd.out _).mono ?_
            rintro e w' ⟨rfl, rfl⟩
            have hx4 := hxr.mix hlt hS.out.1
            have hu4s : Upd (fun x => x = b) w3 (w3.setCell ⟨b, k, none⟩ (.int .u64 (sv : Nat))) := (Upd.refl _ _).setCell _ _ (fun _ => rfl)
            have hd4 := hdr.keep hu4s (by omega) (by omega)
            have hm4 := hmr.keep hu4s h1 h2 h3
            have hu4 := hu.trans hu4s
            go_wp2_with fail
            clear cx1 cx2
            generalize w3.setCell ⟨b, k, none⟩ (.int .u64 (sv : Nat)) = w4 at *
            have cx1 := hx4.own.cell k hlt
            have HX4 : Hid (dg W64 (mixN n (k + 1) T P) k = sv) := by show _ = _; rw [dg_mixN hlt, if_pos (by omega)]; exact hS.out.1.symm
            rw [HX4.out] at cx1
            obtain ⟨dd, cd1, _, _⟩ := hd4.limb hlt
            have cd2 := hd4.own.free k hlt
            obtain ⟨dm', cm1, _, HDM'⟩ := hm4.nat.limb hlt
            obtain rfl : dm' = dm := by rw [HDM'.out, HDM.out]
            have HP := Lib.hid (And.intro hS.out (And.intro hx4 (And.intro hd4 (And.intro hu4 (And.intro hcvl hbvl)))))
            clear hS hx4 hd4 hu4 hm4 hcvl hbvl HDM' HDM HX4 hxr hdr hu hmr HSV HCV HDV HBV kadd hu4s HL HD1 HD2 HC HB HT HU HWM HW HY Ht HS Hm Hl hdm hm
            go_region_with ((go_at_call 133; refine (ksub.out _).mono ?_; rintro e w' ⟨rfl, rfl⟩))
            all_goals (go_wp2_with fail; go_meet)
            all_goals (obtain ⟨hS, hx4, hd4, hu4, hcvl, hbvl⟩ := HP.out)
            all_goals (exact ⟨cv, bv, rfl, rfl, hcvl, hbvl, hS.2.1, hS.2.2.2, hx4.keep (((Upd.refl (fun x => x = bd) w4).setCell ⟨bd, k, none⟩ (.int .u64 (dv : Nat)) (fun _ => rfl)).drewN _) (by omega) (by omega), (hd4.mix hlt hS.2.2.1).drewN _, (hu4.then ((Upd.refl (fun x => x = bd) w4).setCell ⟨bd, k, none⟩ (.int .u64 (dv : Nat)) (fun _ => rfl)) (fun i hi h => by omega)).drewN _⟩)
          case rest =>
            clear hxr hdr hu hmr e1 e2 e3 hd1 hd2
            obtain ⟨cv, bv, rfl, rfl, hcvl, hbvl, HC2, HB2, hx5, hd5, hu5⟩ := hcut
            go_wp2_with fail
            go_roundw
            case rel => exact ⟨k + 1, cv, bv, by omega, by go_num, rfl, rfl, hcvl, hbvl, HC2, HB2, hx5, hd5, hu5⟩
            case measure => simp [intOf]; omega
        · obtain rfl : k = n := by omega
          rw [mixN_all (by rw [HT.out]; exact Nat.mod_lt _ (Nat.pow_pos W64_pos))] at hxr
          rw [mixN_all (by rw [HU.out]; exact subN_lt _ _ _)] at hdr
          have HB2 : Hid (b1 = ltN T M) := by
            show _ = _
            rw [HB.out, boN_all hxr.lt hlM]; rfl
          have HC2 : Hid (c1 = (W + W + t) / W64 ^ k) := by
            show _ = _
            rw [HC.out, ccN_all (Nat.lt_trans HWM.out hlM)]
          have hor := or_small (show 1 - b1 ≤ 1 by omega) hc1
          obtain ⟨z2, Hz2⟩ : ∃ z2, Hid (z2 = max (1 - b1) c1) := ⟨_, rfl⟩
          rw [← Hz2.out] at hor
          have hz2 : z2 ≤ 1 := by rw [Hz2.out]; omega
          have HS2 : Hid (selN z2 T U = shV V y M u) := by
            show _ = _
            rw [Hz2.out, HU.out, HB2.out, HC2.out, HT.out, shift_bit HWM.out hlM ht, HW.out, HS.out, Ht.out, HY.out]
            exact shV_step V y M u (by omega)
          have kn := Lib.hid (fun w => not_any b1 w hb1)
          go_wp2_with fail
          with_reducible refine (kn.out _).mono ?_
          rintro e w' ⟨rfl, rfl⟩
          go_wp2_with fail
          go_roundw
          case rel => exact ⟨u, z2, T, U, by omega, by go_num, by first | rfl | rw [hor], hz2, HS2, hxr, hdr, hu⟩
          case measure => simp [intOf]
end Go.Proofs.Ytpojonfopoobpaa
