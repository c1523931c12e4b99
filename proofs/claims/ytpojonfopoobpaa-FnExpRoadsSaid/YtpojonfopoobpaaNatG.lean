/-
  Contracts: add, sub, ctMask, assign.
-/
import Derived.Test.YtpojonfopoobpaaNatF
import Derived.Deep.DeepCutAuto
import Derived.Deep.CutBlock
namespace Go.Proofs.Ytpojonfopoobpaa
open Go.RowKit


theorem sum_digit {X Y n k : Nat} (hk : k < n) : dg W64 ((X + Y) % W64 ^ n) k = sumW (dg W64 X k) (dg W64 Y k) (caN X Y k) := by
  rw [dg_mod_lt W64_pos hk, add_digit]

/-- 1 if X is below Y. -/
def ltN (X Y : Nat) : Nat := if X < Y then 1 else 0
theorem ltN_le (X Y : Nat) : ltN X Y ≤ 1 := by unfold ltN; split <;> omega
set_option maxRecDepth 100000 in
set_option maxHeartbeats 4000000 in
theorem add_any (p b c n X q b' c' Y : Nat) (w : World) (hx : NatAt w p b c n X) (hy : NatAt w q b' c' n Y) (hal : b' = b → X = Y) :
    Calls Try.prog 99 #[.pointer (some ⟨p, 0, none⟩), .pointer (some ⟨q, 0, none⟩)] w fun e w' => e = .returned (.int .u64 (caN X Y n)) ∧ NatAt w' p b c n ((X + Y) % W64 ^ n) ∧ Upd (fun k => k = b) w w' := by
  have hcell := hx.hd
  have hcell2 := hy.hd
  have hle := hx.le
  have hsm := hx.sm
  have hle2 := hy.le
  have hsm2 := hy.sm
  go_enter Try.func99, Try.ntmps99
  go_wp2
  go_loopw [4, 8] (fun s i wr => ∃ k z : Nat, k ≤ n ∧ i = .int .i64 k ∧ s = .int .u64 z ∧ z ≤ 1 ∧ Hid (z = caN X Y k) ∧ Wrote w wr b n (fun j => if j < k then dg W64 ((X + Y) % W64 ^ n) j else dg W64 X j)) (fun _ i _ => n - (intOf i).toNat)
  case atStart => exact ⟨0, 0, Nat.zero_le _, rfl, rfl, by omega, (caN_zero X Y).symm, .start (hx.own.congr (fun j _ => by rw [if_neg (Nat.not_lt_zero j)]))⟩
  case round =>
    obtain ⟨k, z, hk, rfl, rfl, hz, HZ, hw⟩ := hrel
    by_cases hlt : k < n
    · obtain ⟨d, hc1, hf1, hd, HD⟩ := hw.limb hlt (by rw [if_neg (Nat.lt_irrefl k)]; exact limb_lt _ _)
      have HD : Hid (d = dg W64 X k) := by rw [if_neg (Nat.lt_irrefl k)] at HD; exact HD
      obtain ⟨d2, hc2, hd2, HD2⟩ := hy.limbOf hw hlt (fun e => by rw [if_neg (Nat.lt_irrefl k), hal e])
      have HV : Hid (sumW d d2 z = dg W64 ((X + Y) % W64 ^ n) k) := by
        show _ = _
        rw [HD.out, HD2.out, HZ.out]
        exact (sum_digit hlt).symm
      have HC : Hid (carW d d2 z = caN X Y (k + 1)) := by
        show _ = _
        rw [HD.out, HD2.out, HZ.out]
        exact (add_carry X Y k).symm
      have hcle : carW d d2 z ≤ 1 := by rw [HC.out]; exact caN_le _ _ _
      have hcall := fun w => bitsAdd_any d d2 z w hz hd hd2
      replace hcall := Lib.hid hcall
      have i1 : (k : Int) < (n : Int) := by omega
      have i2 : (0 : Int) ≤ (k : Int) := by omega
      have i3 : ((k : Int)).toNat = k := by omega
      go_upto_block 1 with fail
      go_cut [4] (fun t wx => t = .int .u64 (carW d d2 z : Nat) ∧ ∃ m, wx = (wr.setCell ⟨b, k, none⟩ (.int .u64 (sumW d d2 z : Nat))).drewN m)
      case first =>
        clear HV HC HZ HD HD2 hw
        go_wp2_with fail
        go_region_with ((go_at_call 130; refine (hcall.out _).mono ?_; rintro e w' ⟨rfl, rfl⟩))
        all_goals (go_wp2_with fail; go_meet)
        all_goals (exact ⟨rfl, _, rfl⟩)
      case rest =>
        obtain ⟨rfl, m, rfl⟩ := hcut
        have hw2 := (hw.set hlt (sumW d d2 z) rfl).drewN m
        generalize (wr.setCell ⟨b, k, none⟩ (.int .u64 (sumW d d2 z : Nat))).drewN m = wq at *
        go_wp2
        go_roundw
        case rel => exact ⟨k + 1, carW d d2 z, by omega, by go_num, rfl, hcle, HC, hw2.congr fun j hj => by
          rw [HV.out]
          by_cases e : j = k
          · subst e; rw [if_pos rfl, if_pos (by omega)]
          · rw [if_neg e]
            by_cases e2 : j < k
            · rw [if_pos e2, if_pos (by omega)]
            · rw [if_neg e2, if_neg (by omega)]⟩
        case measure => simp [intOf]; omega
    · obtain rfl : n = k := by omega
      have HE : Hid (z = caN X Y n) := by show _ = _; exact HZ.out
      have hX : NatAt wr p b c n ((X + Y) % W64 ^ n) := hx.wrote (hw.congr fun j hj => by rw [if_pos hj]) (Nat.mod_lt _ (Nat.pow_pos W64_pos))
      have hu := hw.upd
      clear hw
      go_wp2
      go_ret
      exact ⟨ret_nat HE.out, hX, hu⟩
set_option maxRecDepth 100000 in
set_option maxHeartbeats 4000000 in
theorem sub_any (p b c n X q b' c' Y : Nat) (w : World) (hx : NatAt w p b c n X) (hy : NatAt w q b' c' n Y) (hal : b' = b → X = Y) :
    Calls Try.prog 129 #[.pointer (some ⟨p, 0, none⟩), .pointer (some ⟨q, 0, none⟩)] w fun e w' => e = .returned (.int .u64 (ltN X Y)) ∧ NatAt w' p b c n (subN n X Y) ∧ Upd (fun k => k = b) w w' := by
  have hcell := hx.hd
  have hcell2 := hy.hd
  have hle := hx.le
  have hsm := hx.sm
  have hle2 := hy.le
  have hsm2 := hy.sm
  go_enter Try.func129, Try.ntmps129
  go_wp2
  go_loopw [4, 8] (fun s i wr => ∃ k z : Nat, k ≤ n ∧ i = .int .i64 k ∧ s = .int .u64 z ∧ z ≤ 1 ∧ Hid (z = boN X Y k) ∧ Wrote w wr b n (fun j => if j < k then dg W64 (subN n X Y) j else dg W64 X j)) (fun _ i _ => n - (intOf i).toNat)
  case atStart => exact ⟨0, 0, Nat.zero_le _, rfl, rfl, by omega, (boN_zero X Y).symm, .start (hx.own.congr (fun j _ => by rw [if_neg (Nat.not_lt_zero j)]))⟩
  case round =>
    obtain ⟨k, z, hk, rfl, rfl, hz, HZ, hw⟩ := hrel
    by_cases hlt : k < n
    · obtain ⟨d, hc1, hf1, hd, HD⟩ := hw.limb hlt (by rw [if_neg (Nat.lt_irrefl k)]; exact limb_lt _ _)
      have HD : Hid (d = dg W64 X k) := by rw [if_neg (Nat.lt_irrefl k)] at HD; exact HD
      obtain ⟨d2, hc2, hd2, HD2⟩ := hy.limbOf hw hlt (fun e => by rw [if_neg (Nat.lt_irrefl k), hal e])
      have HV : Hid (difW d d2 z = dg W64 (subN n X Y) k) := by
        show _ = _
        rw [HD.out, HD2.out, HZ.out]
        exact (sub_digit hx.lt hy.lt hlt).symm
      have HC : Hid (borW d d2 z = boN X Y (k + 1)) := by
        show _ = _
        rw [HD.out, HD2.out, HZ.out]
        exact (sub_borrow X Y k).symm
      have hcle : borW d d2 z ≤ 1 := by rw [HC.out]; exact boN_le _ _ _
      have hcall := fun w => bitsSub_any d d2 z w hz hd hd2
      replace hcall := Lib.hid hcall
      have i1 : (k : Int) < (n : Int) := by omega
      have i2 : (0 : Int) ≤ (k : Int) := by omega
      have i3 : ((k : Int)).toNat = k := by omega
      go_upto_block 1 with fail
      go_cut [4] (fun t wx => t = .int .u64 (borW d d2 z : Nat) ∧ ∃ m, wx = (wr.setCell ⟨b, k, none⟩ (.int .u64 (difW d d2 z : Nat))).drewN m)
      case first =>
        clear HV HC HZ HD HD2 hw
        go_wp2_with fail
        go_region_with ((go_at_call 133; refine (hcall.out _).mono ?_; rintro e w' ⟨rfl, rfl⟩))
        all_goals (go_wp2_with fail; go_meet)
        all_goals (exact ⟨rfl, _, rfl⟩)
      case rest =>
        obtain ⟨rfl, m, rfl⟩ := hcut
        have hw2 := (hw.set hlt (difW d d2 z) rfl).drewN m
        generalize (wr.setCell ⟨b, k, none⟩ (.int .u64 (difW d d2 z : Nat))).drewN m = wq at *
        go_wp2
        go_roundw
        case rel => exact ⟨k + 1, borW d d2 z, by omega, by go_num, rfl, hcle, HC, hw2.congr fun j hj => by
          rw [HV.out]
          by_cases e : j = k
          · subst e; rw [if_pos rfl, if_pos (by omega)]
          · rw [if_neg e]
            by_cases e2 : j < k
            · rw [if_pos e2, if_pos (by omega)]
            · rw [if_neg e2, if_neg (by omega)]⟩
        case measure => simp [intOf]; omega
    · obtain rfl : n = k := by omega
      have HE : Hid (z = ltN X Y) := by show _ = _; exact HZ.out.trans (boN_all hx.lt hy.lt)
      have hX : NatAt wr p b c n (subN n X Y) := hx.wrote (hw.congr fun j hj => by rw [if_pos hj]) (subN_lt _ _ _)
      have hu := hw.upd
      clear hw
      go_wp2
      go_ret
      exact ⟨ret_nat HE.out, hX, hu⟩

/-- One of two numbers. -/
def selN (on X Y : Nat) : Nat := if on = 1 then Y else X
theorem selN_one (X Y : Nat) : selN 1 X Y = Y := rfl
theorem selN_zero (X Y : Nat) : selN 0 X Y = X := rfl
theorem selN_lt {on X Y u : Nat} (hX : X < u) (hY : Y < u) : selN on X Y < u := by unfold selN; split <;> assumption
theorem dg_selN (on X Y k : Nat) : dg W64 (selN on X Y) k = selN on (dg W64 X k) (dg W64 Y k) := by unfold selN; split <;> rfl
def maskN (on : Nat) : Nat := if on = 1 then 18446744073709551615 else 0
theorem maskN_lt (on : Nat) : maskN on < 18446744073709551616 := by unfold maskN; split <;> omega
theorem neg_small {c : Nat} (h : c ≤ 1) : IntKind.u64.wrap (-(c : Int)) = ((maskN c : Nat) : Int) := by
  have : c = 0 ∨ c = 1 := by omega
  rcases this with rfl | rfl <;> rfl
theorem mask_sel {on d e : Nat} (hon : on ≤ 1) (hd : d < 18446744073709551616) (he : e < 18446744073709551616) : xorW d (andW (maskN on) (xorW d e)) = selN on d e := by
  have : on = 0 ∨ on = 1 := by omega
  rcases this with rfl | rfl
  · show (d ^^^ ((0 &&& (d ^^^ e) % W64) % W64)) % W64 = d
    rw [Nat.zero_and, Nat.zero_mod, Nat.xor_zero]
    exact Nat.mod_eq_of_lt hd
  · show (d ^^^ ((18446744073709551615 &&& (d ^^^ e) % W64) % W64)) % W64 = e
    have h : d ^^^ e < 2 ^ 64 := Nat.xor_lt_two_pow (by omega) (by omega)
    rw [W64_eq, Nat.mod_eq_of_lt h, Nat.and_comm, show 18446744073709551615 = 2 ^ 64 - 1 from rfl, Nat.and_two_pow_sub_one_eq_mod, Nat.mod_eq_of_lt h, Nat.mod_eq_of_lt h, ← Nat.xor_assoc, Nat.xor_self, Nat.zero_xor]
    exact Nat.mod_eq_of_lt he

set_option maxHeartbeats 400000 in
theorem ctMask_any (on : Nat) (w : World) (hon : on ≤ 1) :
    Calls Try.prog 132 #[.int .u64 on] w fun e w' => e = .returned (.int .u64 (maskN on)) ∧ w = w' := by
  have h := neg_small hon
  go_enter Try.func132, Try.ntmps132
  go_wp2
  go_ret
  exact ⟨rfl, rfl⟩

set_option maxRecDepth 100000 in
set_option maxHeartbeats 4000000 in
theorem assign_any (p b c n X q b' c' Y on : Nat) (w : World) (hx : NatAt w p b c n X) (hy : NatAt w q b' c' n Y) (hon : on ≤ 1) (hal : b' = b → X = Y) :
    Calls Try.prog 94 #[.pointer (some ⟨p, 0, none⟩), .int .u64 on, .pointer (some ⟨q, 0, none⟩)] w fun e w' => e = .returned (.pointer (some ⟨p, 0, none⟩)) ∧ NatAt w' p b c n (selN on X Y) ∧ Upd (fun k => k = b) w w' := by
  have hcell := hx.hd
  have hcell2 := hy.hd
  have hle := hx.le
  have hsm := hx.sm
  have hle2 := hy.le
  have hsm2 := hy.sm
  have hm := maskN_lt on
  have hmask := ctMask_any on w hon
  obtain ⟨m, Hm⟩ : ∃ m, Hid (m = maskN on) := ⟨_, rfl⟩
  rw [← Hm.out] at hm hmask
  replace hmask := Lib.hid hmask
  go_enter Try.func94, Try.ntmps94
  go_wp2_with fail
  with_reducible refine hmask.out.mono ?_
  rintro e w' ⟨rfl, rfl⟩
  go_wp2_with fail
  go_loopw [11] (fun i wr => ∃ k : Nat, k ≤ n ∧ i = .int .i64 k ∧ Wrote w wr b n (fun j => if j < k then dg W64 (selN on X Y) j else dg W64 X j)) (fun i _ => n - (intOf i).toNat)
  case atStart => exact ⟨0, Nat.zero_le _, rfl, .start (hx.own.congr (fun j _ => by rw [if_neg (Nat.not_lt_zero j)]))⟩
  case round =>
    obtain ⟨k, hk, rfl, hw⟩ := hrel
    by_cases hlt : k < n
    · obtain ⟨d, hc1, hf1, hd, HD⟩ := hw.limb hlt (by rw [if_neg (Nat.lt_irrefl k)]; exact limb_lt _ _)
      have HD : Hid (d = dg W64 X k) := by rw [if_neg (Nat.lt_irrefl k)] at HD; exact HD
      obtain ⟨d2, hc2, hd2, HD2⟩ := hy.limbOf hw hlt (fun e => by rw [if_neg (Nat.lt_irrefl k), hal e])
      have e1 := bits_xor d d2
      have e2 := bits_and m (xorW d d2)
      have e3 := bits_xor d (andW m (xorW d d2))
      have HV : Hid (xorW d (andW m (xorW d d2)) = dg W64 (selN on X Y) k) := by
        show _ = _
        rw [Hm.out, mask_sel hon hd hd2, HD.out, HD2.out, dg_selN]
      have i1 : (k : Int) < (n : Int) := by omega
      have i2 : (0 : Int) ≤ (k : Int) := by omega
      have i3 : ((k : Int)).toNat = k := by omega
      go_wp2_with fail
      go_still_tail 17, (by kernel_rfl)
      change wpList _ _ _ _ _ wr.drew
      go_wp2
      go_roundw
      case rel => exact ⟨k + 1, by omega, by go_num, by
        refine (hw.drew.set hlt _ rfl).congr fun j hj => ?_
        rw [HV.out]
        by_cases e : j = k
        · subst e; rw [if_pos rfl, if_pos (by omega)]
        · rw [if_neg e]
          by_cases e2 : j < k
          · rw [if_pos e2, if_pos (by omega)]
          · rw [if_neg e2, if_neg (by omega)]⟩
      case measure => simp [intOf]; omega
    · obtain rfl : n = k := by omega
      have hX : NatAt wr p b c n (selN on X Y) := hx.wrote (hw.congr fun j hj => by rw [if_pos hj]) (selN_lt hx.lt hy.lt)
      have hu := hw.upd
      clear hw
      go_wp2
      go_ret
      exact ⟨rfl, hX, hu⟩
end Go.Proofs.Ytpojonfopoobpaa
