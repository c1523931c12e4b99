/-
  Contracts: ctMask, Equal, cmpGeq.
-/
import Derived.Test.YtmbghmjllipbhaaNatE
import Derived.Deep.QuietTactic
import Derived.BigQuiet
import Derived.Deep.RegionWith
import Derived.Deep.RegionHeld3
namespace Go.Proofs.Ytmbghmjllipbhaa
open Go.RowKit

/-- The carry below digit k of X + Y. -/
def caN (X Y k : Nat) : Nat := (X % W64 ^ k + Y % W64 ^ k) / W64 ^ k
/-- The borrow below digit k of X - Y. -/
def boN (X Y k : Nat) : Nat := if X % W64 ^ k < Y % W64 ^ k then 1 else 0
theorem boN_le (X Y k : Nat) : boN X Y k ≤ 1 := by unfold boN; split <;> omega
theorem caN_le (X Y k : Nat) : caN X Y k ≤ 1 := by
  have hp : 0 < W64 ^ k := Nat.pow_pos W64_pos
  have h1 := Nat.mod_lt X hp
  have h2 := Nat.mod_lt Y hp
  have : caN X Y k < 2 := (Nat.div_lt_iff_lt_mul hp).2 (by omega)
  omega
theorem caN_zero (X Y : Nat) : caN X Y 0 = 0 := by simp [caN, Nat.mod_one]
theorem boN_zero (X Y : Nat) : boN X Y 0 = 0 := by simp [boN, Nat.mod_one]
theorem add_split (X Y k : Nat) : (X % W64 ^ (k + 1) + Y % W64 ^ (k + 1)) / W64 ^ k = dg W64 X k + dg W64 Y k + caN X Y k := by
  have hp : 0 < W64 ^ k := Nat.pow_pos W64_pos
  rw [mod_succ, mod_succ]
  have : X % W64 ^ k + W64 ^ k * dg W64 X k + (Y % W64 ^ k + W64 ^ k * dg W64 Y k) = (X % W64 ^ k + Y % W64 ^ k) + W64 ^ k * (dg W64 X k + dg W64 Y k) := by
    rw [Nat.mul_add]; omega
  rw [this, Nat.add_mul_div_left _ _ hp]
  unfold caN
  omega
theorem add_digit (X Y k : Nat) : dg W64 (X + Y) k = sumW (dg W64 X k) (dg W64 Y k) (caN X Y k) := by
  have h : dg W64 (X + Y) k = dg W64 (X % W64 ^ (k + 1) + Y % W64 ^ (k + 1)) k := by
    rw [← dg_mod_lt W64_pos (Nat.lt_succ_self k), Nat.add_mod, dg_mod_lt W64_pos (Nat.lt_succ_self k)]
  rw [h]
  unfold dg sumW
  rw [add_split]
  rfl
theorem add_carry (X Y k : Nat) : caN X Y (k + 1) = carW (dg W64 X k) (dg W64 Y k) (caN X Y k) := by
  unfold carW
  rw [← add_split, Nat.div_div_eq_div_mul, ← Nat.pow_succ]
  rfl
theorem caN_all {X Y n : Nat} (hX : X < W64 ^ n) (hY : Y < W64 ^ n) : caN X Y n = (X + Y) / W64 ^ n := by
  unfold caN
  rw [Nat.mod_eq_of_lt hX, Nat.mod_eq_of_lt hY]
theorem boN_all {X Y n : Nat} (hX : X < W64 ^ n) (hY : Y < W64 ^ n) : boN X Y n = if X < Y then 1 else 0 := by
  unfold boN
  rw [Nat.mod_eq_of_lt hX, Nat.mod_eq_of_lt hY]
theorem sub_borrow (X Y k : Nat) : boN X Y (k + 1) = borW (dg W64 X k) (dg W64 Y k) (boN X Y k) := by
  have hp : 0 < W64 ^ k := Nat.pow_pos W64_pos
  have h1 := Nat.mod_lt X hp
  have h2 := Nat.mod_lt Y hp
  unfold boN borW
  rw [mod_succ, mod_succ]
  generalize dg W64 X k = a
  generalize dg W64 Y k = d
  generalize X % W64 ^ k = x at *
  generalize Y % W64 ^ k = y at *
  generalize W64 ^ k = u at *
  rcases Nat.lt_trichotomy a d with h | h | h
  · have := Nat.mul_le_mul_left u (show a + 1 ≤ d by omega)
    rw [Nat.mul_add, Nat.mul_one] at this
    rw [if_pos (show x + u * a < y + u * d by omega), if_pos]
    split <;> omega
  · subst h
    by_cases h : x < y
    · rw [if_pos h, if_pos (by omega), if_pos (by omega)]
    · rw [if_neg h, if_neg (by omega), if_neg (by omega)]
  · have := Nat.mul_le_mul_left u (show d + 1 ≤ a by omega)
    rw [Nat.mul_add, Nat.mul_one] at this
    rw [if_neg (show ¬ x + u * a < y + u * d by omega), if_neg]
    split <;> omega
/-- X - Y modulo W64 ^ n. -/
def subN (n X Y : Nat) : Nat := (X + W64 ^ n - Y) % W64 ^ n
theorem subN_lt (n X Y : Nat) : subN n X Y < W64 ^ n := Nat.mod_lt _ (Nat.pow_pos W64_pos)
theorem subN_le {n X Y : Nat} (hX : X < W64 ^ n) (h : Y ≤ X) : subN n X Y = X - Y := by
  unfold subN
  rw [show X + W64 ^ n - Y = (X - Y) + W64 ^ n by omega, Nat.add_mod_right, Nat.mod_eq_of_lt (by omega)]
theorem subN_gt {n X Y : Nat} (hY : Y < W64 ^ n) (h : X < Y) : subN n X Y = X + W64 ^ n - Y := by
  unfold subN
  rw [Nat.mod_eq_of_lt (by omega)]
theorem sub_digit {X Y n k : Nat} (_hX : X < W64 ^ n) (hY : Y < W64 ^ n) (hk : k < n) : dg W64 (subN n X Y) k = difW (dg W64 X k) (dg W64 Y k) (boN X Y k) := by
  unfold subN
  rw [dg_mod_lt W64_pos hk]
  have hp : 0 < W64 ^ k := Nat.pow_pos W64_pos
  obtain ⟨j, rfl⟩ : ∃ j, n = k + (j + 1) := ⟨n - k - 1, by omega⟩
  have hn : W64 ^ (k + (j + 1)) = W64 ^ k * (W64 * W64 ^ j) := by rw [Nat.pow_add, Nat.pow_succ, Nat.mul_comm W64]
  have hq : 0 < W64 ^ j := Nat.pow_pos W64_pos
  rw [hn] at hY ⊢
  have h1 := Nat.mod_lt X hp
  have h2 := Nat.mod_lt Y hp
  have e1 := Nat.div_add_mod X (W64 ^ k)
  have e2 := Nat.div_add_mod Y (W64 ^ k)
  have hY1 : Y / W64 ^ k < W64 * W64 ^ j := (Nat.div_lt_iff_lt_mul hp).2 (by rw [Nat.mul_comm]; exact hY)
  unfold dg difW boN
  generalize W64 ^ j = q at *
  generalize X % W64 ^ k = x at *
  generalize Y % W64 ^ k = y at *
  generalize X / W64 ^ k = X1 at *
  generalize Y / W64 ^ k = Y1 at *
  generalize W64 ^ k = u at *
  have hb : ∀ b : Nat, (b = if x < y then 1 else 0) → (X + u * (W64 * q) - Y) / u = X1 + W64 * q - Y1 - b := by
    intro b hb
    have hd : X + u * (W64 * q) - Y = u * (X1 + W64 * q - Y1) + x - y := by
      rw [Nat.mul_sub, Nat.mul_add]
      have : u * Y1 ≤ u * (W64 * q) := Nat.mul_le_mul_left _ (Nat.le_of_lt hY1)
      omega
    rw [hd]
    obtain ⟨t, ht⟩ : ∃ t, X1 + W64 * q - Y1 = t + 1 := ⟨X1 + W64 * q - Y1 - 1, by omega⟩
    rw [ht]
    by_cases hxy : x < y
    · rw [if_pos hxy] at hb
      subst hb
      rw [Nat.mul_add, Nat.mul_one, Nat.add_sub_cancel]
      rw [show u * t + u + x - y = u * t + (u + x - y) by omega, Nat.mul_add_div hp, Nat.div_eq_of_lt (by omega), Nat.add_zero]
    · rw [if_neg hxy] at hb
      subst hb
      rw [show u * (t + 1) + x - y = u * (t + 1) + (x - y) by omega, Nat.mul_add_div hp, Nat.div_eq_of_lt (by omega), Nat.add_zero]
      rfl
  rw [hb _ rfl]
  have hble : (if x < y then 1 else 0 : Nat) ≤ 1 := by split <;> omega
  generalize (if x < y then 1 else 0 : Nat) = b at *
  have d1 := Nat.div_add_mod X1 W64
  have d2 := Nat.div_add_mod Y1 W64
  have d3 := Nat.mod_lt Y1 W64_pos
  have hY2 : Y1 / W64 < q := (Nat.div_lt_iff_lt_mul W64_pos).2 (by rw [Nat.mul_comm]; exact hY1)
  generalize X1 % W64 = a at *
  generalize Y1 % W64 = d at *
  generalize X1 / W64 = X2 at *
  generalize Y1 / W64 = Y2 at *
  have h3 : W64 * (Y2 + 1) ≤ W64 * q := Nat.mul_le_mul_left _ (by omega)
  have : X1 + W64 * q - Y1 - b = W64 * (X2 + (q - (Y2 + 1))) + (a + W64 - d - b) := by
    rw [Nat.mul_add, Nat.mul_sub]
    rw [Nat.mul_add, Nat.mul_one] at h3 ⊢
    omega
  rw [this, Nat.mul_add_mod]

theorem ge_of_bo {X Y n : Nat} (hX : X < W64 ^ n) (hY : Y < W64 ^ n) : 1 - boN X Y n = geN X Y := by
  rw [boN_all hX hY]
  unfold geN
  by_cases h : X < Y
  · rw [if_pos h, if_neg (by omega)]
  · rw [if_neg h, if_pos (by omega)]

/-- A contract of a callee that draws nothing, in the form that the quiet walk asks. -/
theorem quiet_same {P : Program} {f : FuncId} {args : Array Value} {w : World} {n : Nat} {v : Value}
    (h : Calls P f args (w.drewN n) fun e w' => e = .returned v ∧ w.drewN n = w') : Calls P f args (w.drewN n) fun e w'' => e = .returned v ∧ ∃ m, w'' = w.drewN m :=
  h.mono fun _ _ ⟨he, hm⟩ => ⟨he, n, hm.symm⟩

theorem eqN_step (X Y k : Nat) : eqN (X % W64 ^ k) (Y % W64 ^ k) * eqN (dg W64 X k) (dg W64 Y k) = eqN (X % W64 ^ (k + 1)) (Y % W64 ^ (k + 1)) := by
  have hp : 0 < W64 ^ k := Nat.pow_pos W64_pos
  have h1 := Nat.mod_lt X hp
  have h2 := Nat.mod_lt Y hp
  unfold eqN
  rw [mod_succ, mod_succ]
  generalize dg W64 X k = a
  generalize dg W64 Y k = d
  generalize X % W64 ^ k = x at *
  generalize Y % W64 ^ k = y at *
  generalize W64 ^ k = u at *
  by_cases hxy : x = y
  · subst hxy
    by_cases had : a = d
    · subst had; simp
    · rw [if_neg had, Nat.mul_zero, if_neg]
      intro h
      exact had (Nat.eq_of_mul_eq_mul_left hp (Nat.add_left_cancel h))
  · rw [if_neg hxy, Nat.zero_mul, if_neg]
    intro h
    have h3 := congrArg (· % u) h
    simp only [Nat.add_mul_mod_self_left] at h3
    rw [Nat.mod_eq_of_lt h1, Nat.mod_eq_of_lt h2] at h3
    exact hxy h3

/-- A limb of a number that is read while the limbs of another one, or of itself, are written. -/
theorem NatAt.limbOf {w wr : World} {q by' cy n Y b : Nat} {f : Nat → Nat} (hy : NatAt w q by' cy n Y) (hw : Wrote w wr b n f) {k : Nat} (hk : k < n) (h : by' = b → f k = dg W64 Y k) :
    ∃ d, wr.cell? ⟨by', k, none⟩ = some (.int .u64 (d : Nat)) ∧ d < 18446744073709551616 ∧ Hid (d = dg W64 Y k) := by
  refine ⟨dg W64 Y k, ?_, limb_lt _ _, rfl⟩
  by_cases e : by' = b
  · rw [← h e, e]; exact hw.own.cell k hk
  · exact hw.upd.cell (p := ⟨by', k, none⟩) e (hy.own.cell k hk)

set_option maxRecDepth 100000 in
set_option maxHeartbeats 1000000 in
theorem cmpGeq_any (p b c n X q b' c' Y : Nat) (w : World) (hx : NatAt w p b c n X) (hy : NatAt w q b' c' n Y) :
    Calls Try.prog 148 #[.pointer (some ⟨p, 0, none⟩), .pointer (some ⟨q, 0, none⟩)] w fun e w' => e = .returned (.int .u64 (geN X Y)) ∧ ∃ k, w' = w.drewN k := by
  have hcell := hx.hd
  have hcell2 := hy.hd
  have hle := hx.le
  have hsm := hx.sm
  have hle2 := hy.le
  have hsm2 := hy.sm
  have HE : Hid (1 - boN X Y n = geN X Y) := ge_of_bo hx.lt hy.lt
  go_enter Try.func148, Try.ntmps148
  go_wp2
  go_loopw [8, 9] (fun s i wr => ∃ k z t : Nat, k ≤ n ∧ i = .int .i64 k ∧ s = .int .u64 z ∧ z ≤ 1 ∧ Hid (z = boN X Y k) ∧ Hid (wr = w.drewN t)) (fun _ i _ => n - (intOf i).toNat)
  case atStart => exact ⟨0, 0, 0, Nat.zero_le _, rfl, rfl, by omega, (boN_zero X Y).symm, rfl⟩
  case round =>
    obtain ⟨k, z, t, hk, rfl, rfl, hz, HZ, HT⟩ := hrel
    by_cases hlt : k < n
    · obtain ⟨d, hd1, hd, HD⟩ := (hx.drewN t).limb hlt
      obtain ⟨d2, hd3, hd2, HD2⟩ := (hy.drewN t).limb hlt
      rw [← HT.out] at hd1 hd3
      have i1 : (k : Int) < (n : Int) := by omega
      have i2 : (0 : Int) ≤ (k : Int) := by omega
      have i3 : ((k : Int)).toNat = k := by omega
      go_wp2_with fail
      go_quiet ((go_at_call 156; exact quiet_same (bitsSub_any d d2 z _ hz hd hd2)))
      rename_i nq
      have HT2 : Hid (wr.drewN nq = w.drewN (t + nq)) := by show _ = _; rw [HT.out, World.drewN_drewN]
      go_wp2
      go_roundw
      case rel => exact ⟨k + 1, borW d d2 z, _, by omega, by go_num, rfl, borW_le _ _ _, by show _ = _; rw [HD.out, HD2.out, HZ.out]; exact (sub_borrow X Y k).symm, HT2⟩
      case measure => simp [intOf]; omega
    · obtain rfl : k = n := by omega
      have hn := not_any z wr hz
      rw [HZ.out, HE.out, ← HZ.out] at hn
      replace hn := Lib.hid hn
      go_wp2_with fail
      with_reducible refine hn.out.mono ?_
      rintro e w' ⟨rfl, rfl⟩
      go_wp2_with fail
      go_ret
      exact ⟨rfl, _, HT.out⟩

set_option maxRecDepth 100000 in
set_option maxHeartbeats 1000000 in
theorem equal_any (p b c n X q b' c' Y : Nat) (w : World) (hx : NatAt w p b c n X) (hy : NatAt w q b' c' n Y) :
    Calls Try.prog 99 #[.pointer (some ⟨p, 0, none⟩), .pointer (some ⟨q, 0, none⟩)] w fun e w' => e = .returned (.int .u64 (eqN X Y)) ∧ ∃ k, w' = w.drewN k := by
  have hcell := hx.hd
  have hcell2 := hy.hd
  have hle := hx.le
  have hsm := hx.sm
  have hle2 := hy.le
  have hsm2 := hy.sm
  go_enter Try.func99, Try.ntmps99
  go_wp2
  go_loopw [8, 9] (fun s i wr => ∃ k z t : Nat, k ≤ n ∧ i = .int .i64 k ∧ s = .int .u64 z ∧ z ≤ 1 ∧ Hid (z = eqN (X % W64 ^ k) (Y % W64 ^ k)) ∧ Hid (wr = w.drewN t)) (fun _ i _ => n - (intOf i).toNat)
  case atStart => exact ⟨0, 1, 0, Nat.zero_le _, rfl, rfl, by omega, by show _ = _; simp [eqN, Nat.mod_one], rfl⟩
  case round =>
    obtain ⟨k, z, t, hk, rfl, rfl, hz, HZ, HT⟩ := hrel
    by_cases hlt : k < n
    · obtain ⟨d, hd1, hd, HD⟩ := (hx.drewN t).limb hlt
      obtain ⟨d2, hd3, hd2, HD2⟩ := (hy.drewN t).limb hlt
      rw [← HT.out] at hd1 hd3
      have ha := and_small hz (eqN_le d d2)
      have HN : Hid (z * eqN d d2 = eqN (X % W64 ^ (k + 1)) (Y % W64 ^ (k + 1))) := by show _ = _; rw [HZ.out, HD.out, HD2.out]; exact eqN_step X Y k
      obtain ⟨z', Hz'⟩ : ∃ z', Hid (z' = z * eqN d d2) := ⟨_, rfl⟩
      have hz' : z' ≤ 1 := by rw [Hz'.out, HN.out]; exact eqN_le _ _
      rw [← Hz'.out] at ha
      have i1 : (k : Int) < (n : Int) := by omega
      have i2 : (0 : Int) ≤ (k : Int) := by omega
      have i3 : ((k : Int)).toNat = k := by omega
      go_wp2_with fail
      go_quiet ((go_at_call 119; exact quiet_same (ctEq_any d d2 _ hd hd2)))
      rename_i nq
      have HT2 : Hid (wr.drewN nq = w.drewN (t + nq)) := by show _ = _; rw [HT.out, World.drewN_drewN]
      go_wp2
      go_roundw
      case rel => exact ⟨k + 1, z', _, by omega, by go_num, by first | rfl | rw [ha], hz', by rw [Hz'.out]; exact HN, HT2⟩
      case measure => simp [intOf]; omega
    · obtain rfl : k = n := by omega
      have HE : Hid (z = eqN X Y) := by show _ = _; rw [HZ.out, Nat.mod_eq_of_lt hx.lt, Nat.mod_eq_of_lt hy.lt]
      go_wp2
      go_ret
      exact ⟨ret_nat HE.out, _, HT.out⟩
end Go.Proofs.Ytmbghmjllipbhaa
