/-
  Contracts of the reference's sum and difference.
  Contracts of the reference's functions modulo m.
  Contracts of the reference's exported functions.
-/
import Derived.Test.YtpojonfopoobpaaSpecF
import Derived.Test.YtpojonfopoobpaaLwBase
namespace Go.Proofs.Ytpojonfopoobpaa
open Go.RowKit

/-- The carry below digit k of X + Y. -/
def caB (X Y k : Nat) : Nat := (X % 65536 ^ k + Y % 65536 ^ k) / 65536 ^ k
theorem B_pos (k : Nat) : 0 < 65536 ^ k := Nat.pow_pos (by omega)
theorem caB_zero (X Y : Nat) : caB X Y 0 = 0 := by simp [caB, Nat.mod_one]
theorem caB_le (X Y k : Nat) : caB X Y k ≤ 1 := by
  have h1 := Nat.mod_lt X (B_pos k)
  have h2 := Nat.mod_lt Y (B_pos k)
  have : caB X Y k < 2 := (Nat.div_lt_iff_lt_mul (B_pos k)).2 (by omega)
  omega
theorem sum_div (X Y k : Nat) : (X + Y) / 65536 ^ k = X / 65536 ^ k + Y / 65536 ^ k + caB X Y k := by
  have h1 := Nat.div_add_mod X (65536 ^ k)
  have h2 := Nat.div_add_mod Y (65536 ^ k)
  unfold caB
  have e : X + Y = (X % 65536 ^ k + Y % 65536 ^ k) + 65536 ^ k * (X / 65536 ^ k + Y / 65536 ^ k) := by rw [Nat.mul_add]; omega
  have h3 : (X + Y) / 65536 ^ k = ((X % 65536 ^ k + Y % 65536 ^ k) + 65536 ^ k * (X / 65536 ^ k + Y / 65536 ^ k)) / 65536 ^ k := by rw [← e]
  rw [h3, Nat.add_mul_div_left _ _ (B_pos k)]
  omega
theorem sum_dg (X Y k : Nat) : dg 65536 (X + Y) k = (caB X Y k + dg 65536 X k + dg 65536 Y k) % 65536 := by
  unfold dg
  rw [sum_div]
  omega
theorem sum_ca (X Y k : Nat) : caB X Y (k + 1) = (caB X Y k + dg 65536 X k + dg 65536 Y k) / 65536 := by
  have h1 := sum_div X Y k
  have h2 := sum_div X Y (k + 1)
  rw [Nat.pow_succ, ← Nat.div_div_eq_div_mul, ← Nat.div_div_eq_div_mul, ← Nat.div_div_eq_div_mul, h1] at h2
  unfold dg
  omega
theorem sum_end {X Y k : Nat} (hX : nd X ≤ k) (hY : nd Y ≤ k) (hc : caB X Y k = 0) : X + Y < 65536 ^ k := by
  have h1 := (nd_le_iff k X).1 hX
  have h2 := (nd_le_iff k Y).1 hY
  have h3 := sum_div X Y k
  rw [hc, Nat.div_eq_of_lt h1, Nat.div_eq_of_lt h2] at h3
  exact Nat.lt_of_div_eq_zero (B_pos k) h3
theorem sum_long {X Y k : Nat} (hX : nd X < k) (hY : nd Y < k) : caB X Y k = 0 := by
  obtain ⟨j, rfl⟩ : ∃ j, k = j + 1 := ⟨k - 1, by omega⟩
  have h1 := (nd_le_iff j X).1 (by omega)
  have h2 := (nd_le_iff j Y).1 (by omega)
  have h3 := sum_div X Y (j + 1)
  have hp := B_pos j
  rw [Nat.div_eq_of_lt (show X < 65536 ^ (j + 1) by rw [Nat.pow_succ]; omega), Nat.div_eq_of_lt (show Y < 65536 ^ (j + 1) by rw [Nat.pow_succ]; omega), Nat.div_eq_of_lt (show X + Y < 65536 ^ (j + 1) by rw [Nat.pow_succ]; omega)] at h3
  omega

set_option maxRecDepth 100000 in
set_option maxHeartbeats 1000000 in
theorem sum_any (x y : Option Addr) (cx cy0 A B : Nat) (w : World) (hA : nd A ≤ 100000) (hB : nd B ≤ 100000) (hsa : Sl .i64 w x (nd A) cx (dg 65536 A)) (hsb : Sl .i64 w y (nd B) cy0 (dg 65536 B)) :
    Calls Try.prog 126 #[.slice x (nd A) cx, .slice y (nd B) cy0] w (RetNum w (A + B)) := by
  obtain ⟨na, Hna⟩ : ∃ n, Hid (n = nd A) := ⟨_, rfl⟩
  obtain ⟨nb', Hnb⟩ : ∃ n, Hid (n = nd B) := ⟨_, rfl⟩
  rw [← Hna.out] at hA hsa ⊢
  rw [← Hnb.out] at hB hsb ⊢
  go_enter Try.func126, Try.ntmps126
  go_wp2_with fail
  go_loopw [5, 6, 7] (fun v s i wr => ∃ (k cy : Nat) (a' : Option Addr) (c' : Nat), v = .slice a' k c' ∧ s = .int .i64 cy ∧ i = .int .i64 k ∧ cy ≤ 1 ∧ k ≤ na + nb' + 1 ∧ Hid (cy = caB A B k) ∧ Grow .i64 3 wr w.heap.size a' c' k (dg 65536 (A + B)) ∧ Upd0 w wr) (fun _ _ i _ => na + nb' + 2 - (intOf i).toNat)
  case atStart => exact ⟨0, 0, _, _, rfl, rfl, rfl, by omega, by omega, (caB_zero A B).symm, Grow.made .i64 _ w w.heap.size #[] 0 _ (Nat.le_refl _) (by simp [maxLen]) rfl, (Upd.refl _ _).alloc _⟩
  case round =>
    obtain ⟨k, cy, a', c', rfl, rfl, rfl, hcy, hk, HCY, hg, hu⟩ := hrel
    by_cases h1 : k < na
    · obtain ⟨b1, o1, d1, rfl, hc1, hd1, HD1⟩ := num_cell (hsa.keep hu).rd h1
      have EA := HD1.out.symm
      replace EA := Lib.hid EA
      by_cases h2 : k < nb'
      · obtain ⟨b2, o2, d2, rfl, hc2, hd2, HD2⟩ := num_cell (hsb.keep hu).rd h2
        have EB := Lib.hid HD2.out.symm
        -- one more digit: d1, d2 are the two digits (0 where there is none)
        have HS1 : Hid ((cy + d1 + d2) % 65536 = dg 65536 (A + B) k) := by show _ = _; rw [sum_dg, HCY.out, EA.out, EB.out]
        have HS2 : Hid ((cy + d1 + d2) / 65536 = caB A B (k + 1)) := by show _ = _; rw [sum_ca, HCY.out, EA.out, EB.out]
        have hle1 : (cy + d1 + d2) / 65536 ≤ 1 := by omega
        have hz := hu.size
        go_wp2_with (at_builtin; refine wpList_append_ints rfl (.tmp 45) (.tmp 48) 65 rfl w.heap.size 3 .i64 8 Try.underlying65 info_int a' c' k _ rfl (by exact hg.keep0 ((Upd.refl _ _).alloc _)) ⟨wr.heap.size, 0, none⟩ 1 1 (fun _ => (cy + d1 + d2) % 65536) rfl (by exact Rd.one (by simp)) (by omega) (by omega) (by simp; omega) ?_; intro a2 c2 w2 hg2 hu2)
        go_roundw
        case rel => exact ⟨k + 1, (cy + d1 + d2) / 65536, a2, c2, rfl, by go_num, by go_num, hle1, by omega, HS2, hg2.congr fun t ht => by
          by_cases e : t < k
          · rw [if_pos e]
          · obtain rfl : t = k := by omega
            rw [if_neg e, HS1.out], hu.then (T := fun b => w.heap.size ≤ b) (((Upd.refl _ _).alloc _).then hu2 (fun i _ hi => (hg.block i hi).1)) (fun i h1 h2 => by omega)⟩
        case measure => simp [intOf]; omega
      · have EB : Hid (dg 65536 B k = 0) := dg_of_lt ((nd_le_iff k B).1 (by rw [← Hnb.out]; omega))
        -- one more digit: d1, 0 are the two digits (0 where there is none)
        have HS1 : Hid ((cy + d1 + 0) % 65536 = dg 65536 (A + B) k) := by show _ = _; rw [sum_dg, HCY.out, EA.out, EB.out]
        have HS2 : Hid ((cy + d1 + 0) / 65536 = caB A B (k + 1)) := by show _ = _; rw [sum_ca, HCY.out, EA.out, EB.out]
        have hle1 : (cy + d1 + 0) / 65536 ≤ 1 := by omega
        have hz := hu.size
        go_wp2_with (at_builtin; refine wpList_append_ints rfl (.tmp 45) (.tmp 48) 65 rfl w.heap.size 3 .i64 8 Try.underlying65 info_int a' c' k _ rfl (by exact hg.keep0 ((Upd.refl _ _).alloc _)) ⟨wr.heap.size, 0, none⟩ 1 1 (fun _ => (cy + d1 + 0) % 65536) rfl (by exact Rd.one (by simp)) (by omega) (by omega) (by simp; omega) ?_; intro a2 c2 w2 hg2 hu2)
        go_roundw
        case rel => exact ⟨k + 1, (cy + d1 + 0) / 65536, a2, c2, rfl, by go_num, by go_num, hle1, by omega, HS2, hg2.congr fun t ht => by
          by_cases e : t < k
          · rw [if_pos e]
          · obtain rfl : t = k := by omega
            rw [if_neg e, HS1.out], hu.then (T := fun b => w.heap.size ≤ b) (((Upd.refl _ _).alloc _).then hu2 (fun i _ hi => (hg.block i hi).1)) (fun i h1 h2 => by omega)⟩
        case measure => simp [intOf]; omega
    · have EA : Hid (dg 65536 A k = 0) := dg_of_lt ((nd_le_iff k A).1 (by rw [← Hna.out]; omega))
      by_cases h2 : k < nb'
      · obtain ⟨b2, o2, d2, rfl, hc2, hd2, HD2⟩ := num_cell (hsb.keep hu).rd h2
        have EB := Lib.hid HD2.out.symm
        -- one more digit: 0, d2 are the two digits (0 where there is none)
        have HS1 : Hid ((cy + 0 + d2) % 65536 = dg 65536 (A + B) k) := by show _ = _; rw [sum_dg, HCY.out, EA.out, EB.out]
        have HS2 : Hid ((cy + 0 + d2) / 65536 = caB A B (k + 1)) := by show _ = _; rw [sum_ca, HCY.out, EA.out, EB.out]
        have hle1 : (cy + 0 + d2) / 65536 ≤ 1 := by omega
        have hz := hu.size
        go_wp2_with (at_builtin; refine wpList_append_ints rfl (.tmp 45) (.tmp 48) 65 rfl w.heap.size 3 .i64 8 Try.underlying65 info_int a' c' k _ rfl (by exact hg.keep0 ((Upd.refl _ _).alloc _)) ⟨wr.heap.size, 0, none⟩ 1 1 (fun _ => (cy + 0 + d2) % 65536) rfl (by exact Rd.one (by simp)) (by omega) (by omega) (by simp; omega) ?_; intro a2 c2 w2 hg2 hu2)
        go_roundw
        case rel => exact ⟨k + 1, (cy + 0 + d2) / 65536, a2, c2, rfl, by go_num, by go_num, hle1, by omega, HS2, hg2.congr fun t ht => by
          by_cases e : t < k
          · rw [if_pos e]
          · obtain rfl : t = k := by omega
            rw [if_neg e, HS1.out], hu.then (T := fun b => w.heap.size ≤ b) (((Upd.refl _ _).alloc _).then hu2 (fun i _ hi => (hg.block i hi).1)) (fun i h1 h2 => by omega)⟩
        case measure => simp [intOf]; omega
      · have EB : Hid (dg 65536 B k = 0) := dg_of_lt ((nd_le_iff k B).1 (by rw [← Hnb.out]; omega))
        by_cases h3 : 0 < cy
        · have hk2 : k ≤ na + nb' := by
            refine Nat.le_of_not_lt fun h => ?_
            have := sum_long (X := A) (Y := B) (k := k) (by rw [← Hna.out]; omega) (by rw [← Hnb.out]; omega)
            rw [← HCY.out] at this
            omega
          -- one more digit: 0, 0 are the two digits (0 where there is none)
          have HS1 : Hid ((cy + 0 + 0) % 65536 = dg 65536 (A + B) k) := by show _ = _; rw [sum_dg, HCY.out, EA.out, EB.out]
          have HS2 : Hid ((cy + 0 + 0) / 65536 = caB A B (k + 1)) := by show _ = _; rw [sum_ca, HCY.out, EA.out, EB.out]
          have hle1 : (cy + 0 + 0) / 65536 ≤ 1 := by omega
          have hz := hu.size
          go_wp2_with (at_builtin; refine wpList_append_ints rfl (.tmp 45) (.tmp 48) 65 rfl w.heap.size 3 .i64 8 Try.underlying65 info_int a' c' k _ rfl (by exact hg.keep0 ((Upd.refl _ _).alloc _)) ⟨wr.heap.size, 0, none⟩ 1 1 (fun _ => (cy + 0 + 0) % 65536) rfl (by exact Rd.one (by simp)) (by omega) (by omega) (by simp; omega) ?_; intro a2 c2 w2 hg2 hu2)
          go_roundw
          case rel => exact ⟨k + 1, (cy + 0 + 0) / 65536, a2, c2, rfl, by go_num, by go_num, hle1, by omega, HS2, hg2.congr fun t ht => by
            by_cases e : t < k
            · rw [if_pos e]
            · obtain rfl : t = k := by omega
              rw [if_neg e, HS1.out], hu.then (T := fun b => w.heap.size ≤ b) (((Upd.refl _ _).alloc _).then hu2 (fun i _ hi => (hg.block i hi).1)) (fun i h1 h2 => by omega)⟩
          case measure => simp [intOf]; omega
        · obtain rfl : cy = 0 := by omega
          have HE : Hid (A + B < 65536 ^ k) := sum_end (by rw [← Hna.out]; omega) (by rw [← Hnb.out]; omega) HCY.out.symm
          have hs := hg.sl
          have k1 := trimmed_any a' k c' (A + B) wr (by omega) hs.le HE.out hs.rd
          replace k1 := Lib.hid k1
          go_wp2_with fail
          with_reducible refine k1.out.mono ?_
          rintro e w' ⟨rfl, rfl⟩
          go_wp2_with fail
          go_ret
          have hle : nd (A + B) ≤ k := (nd_le_iff k _).2 HE.out
          exact ⟨a', c', rfl, ⟨Nat.le_trans hle hs.le, hs.rd.le hle, hs.nil⟩, hu⟩
/-- The borrow below digit k of X - Y. -/
def boB (X Y k : Nat) : Nat := if X % 65536 ^ k < Y % 65536 ^ k then 1 else 0
theorem boB_zero (X Y : Nat) : boB X Y 0 = 0 := by simp [boB, Nat.mod_one]
theorem boB_le (X Y k : Nat) : boB X Y k ≤ 1 := by unfold boB; split <;> omega
theorem dif_div {X Y : Nat} (h : Y ≤ X) (k : Nat) : (X - Y) / 65536 ^ k + Y / 65536 ^ k + boB X Y k = X / 65536 ^ k := by
  have h1 := Nat.div_add_mod X (65536 ^ k)
  have h2 := Nat.div_add_mod Y (65536 ^ k)
  have hp := B_pos k
  have m1 := Nat.mod_lt X hp
  have m2 := Nat.mod_lt Y hp
  have h5 := Nat.div_le_div_right (c := 65536 ^ k) h
  unfold boB
  generalize X / 65536 ^ k = X1 at *
  generalize Y / 65536 ^ k = Y1 at *
  generalize X % 65536 ^ k = x at *
  generalize Y % 65536 ^ k = y at *
  generalize 65536 ^ k = u at *
  by_cases hxy : x < y
  · rw [if_pos hxy]
    have h6 : Y1 < X1 := by
      refine Nat.lt_of_le_of_ne h5 fun e => ?_
      subst e; omega
    obtain ⟨t, rfl⟩ : ∃ t, X1 = Y1 + t + 1 := ⟨X1 - Y1 - 1, by omega⟩
    have e : X - Y = u * t + (u + x - y) := by
      rw [Nat.mul_add, Nat.mul_add, Nat.mul_one] at h1
      omega
    rw [e, Nat.mul_add_div hp, Nat.div_eq_of_lt (by omega)]
    omega
  · rw [if_neg hxy]
    obtain ⟨t, rfl⟩ : ∃ t, X1 = Y1 + t := ⟨X1 - Y1, by omega⟩
    have e : X - Y = u * t + (x - y) := by
      rw [Nat.mul_add] at h1
      omega
    rw [e, Nat.mul_add_div hp, Nat.div_eq_of_lt (by omega)]
    omega
theorem dif_step {X Y : Nat} (h : Y ≤ X) (k : Nat) : dg 65536 (X - Y) k + dg 65536 Y k + boB X Y k = dg 65536 X k + 65536 * boB X Y (k + 1) := by
  have h1 := dif_div h k
  have h2 := dif_div h (k + 1)
  have h3 := boB_le X Y k
  have h4 := boB_le X Y (k + 1)
  rw [Nat.pow_succ, ← Nat.div_div_eq_div_mul, ← Nat.div_div_eq_div_mul, ← Nat.div_div_eq_div_mul] at h2
  unfold dg
  omega
set_option maxRecDepth 100000 in
set_option maxHeartbeats 1000000 in
theorem difference_any (x y : Option Addr) (cx cy0 A B : Nat) (w : World) (hA : nd A ≤ 100000) (_hB : nd B ≤ 100000) (hAB : B ≤ A) (hsa : Sl .i64 w x (nd A) cx (dg 65536 A)) (hsb : Sl .i64 w y (nd B) cy0 (dg 65536 B)) :
    Calls Try.prog 125 #[.slice x (nd A) cx, .slice y (nd B) cy0] w (RetNum w (A - B)) := by
  obtain ⟨na, Hna⟩ : ∃ n, Hid (n = nd A) := ⟨_, rfl⟩
  obtain ⟨nb', Hnb⟩ : ∃ n, Hid (n = nd B) := ⟨_, rfl⟩
  rw [← Hna.out] at hA hsa ⊢
  rw [← Hnb.out] at hsb ⊢
  go_enter Try.func125, Try.ntmps125
  go_wp2_with fail
  go_loopw [5, 6, 7] (fun v s i wr => ∃ (k o : Nat) (a' : Option Addr) (c' : Nat), v = .slice a' k c' ∧ s = .int .i64 o ∧ i = .int .i64 k ∧ o ≤ 1 ∧ k ≤ na ∧ Hid (o = boB A B k) ∧ Grow .i64 3 wr w.heap.size a' c' k (dg 65536 (A - B)) ∧ Upd0 w wr) (fun _ _ i _ => na + 2 - (intOf i).toNat)
  case atStart => exact ⟨0, 0, _, _, rfl, rfl, rfl, by omega, by omega, (boB_zero A B).symm, Grow.made .i64 _ w w.heap.size #[] 0 _ (Nat.le_refl _) (by simp [maxLen]) rfl, (Upd.refl _ _).alloc _⟩
  case round =>
    obtain ⟨k, o, a', c', rfl, rfl, rfl, ho, hk, HO, hg, hu⟩ := hrel
    by_cases h1 : k < na
    · obtain ⟨b1, o1, d1, rfl, hc1, hd1, HD1⟩ := num_cell (hsa.keep hu).rd h1
      have EA := Lib.hid HD1.out.symm
      by_cases h2 : k < nb'
      · obtain ⟨b2, o2', d2, rfl, hc2, hd2, HD2⟩ := num_cell (hsb.keep hu).rd h2
        have EB := Lib.hid HD2.out.symm
        have hst := dif_step hAB k
        rw [← HO.out, EA.out, EB.out] at hst
        have hbo := boB_le A B (k + 1)
        have hz := hu.size
        have hdl := dg_lt (b := 65536) (by omega) (A - B) k
        obtain ⟨r, Hr⟩ : ∃ r, Hid (r = dg 65536 (A - B) k) := ⟨_, rfl⟩
        obtain ⟨o2, Ho2⟩ : ∃ o2, Hid (o2 = boB A B (k + 1)) := ⟨_, rfl⟩
        rw [← Hr.out, ← Ho2.out] at hst
        rw [← Hr.out] at hdl
        rw [← Ho2.out] at hbo
        by_cases hneg : (d1 : Int) - (o : Int)- (d2 : Int) < 0
        · obtain rfl : o2 = 1 := by omega
          have er : (d1 : Int) - (o : Int)- (d2 : Int) + 65536 = (r : Int) := by omega
          clear hst
          go_wp2_with (at_builtin; refine wpList_append_ints rfl (.tmp 36) (.tmp 38) 65 rfl w.heap.size 3 .i64 8 Try.underlying65 info_int a' c' k _ rfl (by exact hg.keep0 ((Upd.refl _ _).alloc _)) ⟨wr.heap.size, 0, none⟩ 1 1 (fun _ => r) rfl (by exact Rd.one (by first | rfl | exact er)) (by omega) (by omega) (by simp; omega) ?_; intro a2 c2 w2 hg2 hu2)
          go_roundw
          case rel => exact ⟨k + 1, 1, a2, c2, rfl, by go_num, by go_num, by omega, by omega, Ho2, hg2.congr fun t ht => by
            by_cases e : t < k
            · rw [if_pos e]
            · obtain rfl : t = k := by omega
              rw [if_neg e, Hr.out], hu.then (T := fun b => w.heap.size ≤ b) (((Upd.refl _ _).alloc _).then hu2 (fun i _ hi => (hg.block i hi).1)) (fun i h1 h2 => by omega)⟩
          case measure => simp [intOf]; omega
        · obtain rfl : o2 = 0 := by omega
          have er : (d1 : Int) - (o : Int)- (d2 : Int) = (r : Int) := by omega
          have hneg' : decide ((d1 : Int) - (o : Int)- (d2 : Int) < 0) = false := by simp; omega
          clear hst
          go_wp2_with (at_builtin; refine wpList_append_ints rfl (.tmp 36) (.tmp 38) 65 rfl w.heap.size 3 .i64 8 Try.underlying65 info_int a' c' k _ rfl (by exact hg.keep0 ((Upd.refl _ _).alloc _)) ⟨wr.heap.size, 0, none⟩ 1 1 (fun _ => r) rfl (by exact Rd.one (by first | rfl | exact er)) (by omega) (by omega) (by simp; omega) ?_; intro a2 c2 w2 hg2 hu2)
          go_roundw
          case rel => exact ⟨k + 1, 0, a2, c2, rfl, by go_num, by go_num, by omega, by omega, Ho2, hg2.congr fun t ht => by
            by_cases e : t < k
            · rw [if_pos e]
            · obtain rfl : t = k := by omega
              rw [if_neg e, Hr.out], hu.then (T := fun b => w.heap.size ≤ b) (((Upd.refl _ _).alloc _).then hu2 (fun i _ hi => (hg.block i hi).1)) (fun i h1 h2 => by omega)⟩
          case measure => simp [intOf]; omega
      · have EB : Hid (dg 65536 B k = 0) := dg_of_lt ((nd_le_iff k B).1 (by rw [← Hnb.out]; omega))
        have hst := dif_step hAB k
        rw [← HO.out, EA.out, EB.out] at hst
        have hbo := boB_le A B (k + 1)
        have hz := hu.size
        have hdl := dg_lt (b := 65536) (by omega) (A - B) k
        obtain ⟨r, Hr⟩ : ∃ r, Hid (r = dg 65536 (A - B) k) := ⟨_, rfl⟩
        obtain ⟨o2, Ho2⟩ : ∃ o2, Hid (o2 = boB A B (k + 1)) := ⟨_, rfl⟩
        rw [← Hr.out, ← Ho2.out] at hst
        rw [← Hr.out] at hdl
        rw [← Ho2.out] at hbo
        by_cases hneg : (d1 : Int) - (o : Int) < 0
        · obtain rfl : o2 = 1 := by omega
          have er : (d1 : Int) - (o : Int) + 65536 = (r : Int) := by omega
          clear hst
          go_wp2_with (at_builtin; refine wpList_append_ints rfl (.tmp 36) (.tmp 38) 65 rfl w.heap.size 3 .i64 8 Try.underlying65 info_int a' c' k _ rfl (by exact hg.keep0 ((Upd.refl _ _).alloc _)) ⟨wr.heap.size, 0, none⟩ 1 1 (fun _ => r) rfl (by exact Rd.one (by first | rfl | exact er)) (by omega) (by omega) (by simp; omega) ?_; intro a2 c2 w2 hg2 hu2)
          go_roundw
          case rel => exact ⟨k + 1, 1, a2, c2, rfl, by go_num, by go_num, by omega, by omega, Ho2, hg2.congr fun t ht => by
            by_cases e : t < k
            · rw [if_pos e]
            · obtain rfl : t = k := by omega
              rw [if_neg e, Hr.out], hu.then (T := fun b => w.heap.size ≤ b) (((Upd.refl _ _).alloc _).then hu2 (fun i _ hi => (hg.block i hi).1)) (fun i h1 h2 => by omega)⟩
          case measure => simp [intOf]; omega
        · obtain rfl : o2 = 0 := by omega
          have er : (d1 : Int) - (o : Int) = (r : Int) := by omega
          have hneg' : decide ((d1 : Int) - (o : Int) < 0) = false := by simp; omega
          clear hst
          go_wp2_with (at_builtin; refine wpList_append_ints rfl (.tmp 36) (.tmp 38) 65 rfl w.heap.size 3 .i64 8 Try.underlying65 info_int a' c' k _ rfl (by exact hg.keep0 ((Upd.refl _ _).alloc _)) ⟨wr.heap.size, 0, none⟩ 1 1 (fun _ => r) rfl (by exact Rd.one (by first | rfl | exact er)) (by omega) (by omega) (by simp; omega) ?_; intro a2 c2 w2 hg2 hu2)
          go_roundw
          case rel => exact ⟨k + 1, 0, a2, c2, rfl, by go_num, by go_num, by omega, by omega, Ho2, hg2.congr fun t ht => by
            by_cases e : t < k
            · rw [if_pos e]
            · obtain rfl : t = k := by omega
              rw [if_neg e, Hr.out], hu.then (T := fun b => w.heap.size ≤ b) (((Upd.refl _ _).alloc _).then hu2 (fun i _ hi => (hg.block i hi).1)) (fun i h1 h2 => by omega)⟩
          case measure => simp [intOf]; omega
    · obtain rfl : k = na := by omega
      have HE : Hid (A - B < 65536 ^ k) := Nat.lt_of_le_of_lt (Nat.sub_le _ _) ((nd_le_iff k A).1 (by rw [← Hna.out]; omega))
      have hs := hg.sl
      have k1 := trimmed_any a' k c' (A - B) wr (by omega) hs.le HE.out hs.rd
      replace k1 := Lib.hid k1
      go_wp2_with fail
      with_reducible refine k1.out.mono ?_
      rintro e w' ⟨rfl, rfl⟩
      go_wp2_with fail
      go_ret
      have hle : nd (A - B) ≤ k := (nd_le_iff k _).2 HE.out
      exact ⟨a', c', rfl, ⟨Nat.le_trans hle hs.le, hs.rd.le hle, hs.nil⟩, hu⟩
end Go.Proofs.Ytpojonfopoobpaa

namespace Go.Proofs.Ytpojonfopoobpaa
open Go.RowKit

/-- A number of the reference, and a bool, are returned. -/
def RetNumB (w : World) (N : Nat) (b : Bool) (e : Ending) (w' : World) : Prop :=
  ∃ a c, e = .returned (.tuple #[.slice a (nd N) c, .bool b]) ∧ Sl .i64 w' a (nd N) c (dg 65536 N) ∧ Upd0 w w'
/-- Something where c holds: N in as many bytes as M has. -/
def optN (c : Prop) [Decidable c] (M N : Nat) : Option (Nat × Nat) := if c then some (nb M, N) else none
theorem optN_yes {c : Prop} [Decidable c] (h : c) (M N : Nat) : optN c M N = some (nb M, N) := if_pos h
theorem optN_no {c : Prop} [Decidable c] (h : ¬ c) (M N : Nat) : optN c M N = none := if_neg h
theorem drewUpd {w w' : World} (h : ∃ k, w' = w.drewN k) : Upd0 w w' := by
  obtain ⟨k, rfl⟩ := h
  exact (Upd.refl _ _).drewN k

theorem small_two (w : World) : Calls Try.prog 103 #[.int .i64 2] w (RetNum w 2) := small_any 2 w (by omega)
theorem small_one (w : World) : Calls Try.prog 103 #[.int .i64 1] w (RetNum w 1) := small_any 1 w (by omega)
set_option maxRecDepth 100000 in
set_option maxHeartbeats 1000000 in
theorem sModulus_yes {a : Option Addr} {n c M : Nat} {w : World} (hn : n ≤ 10000) (h : Bs w a n c M) (hM : 1 < M) :
    Calls Try.prog 63 #[.slice a n c] w (RetNumB w M true) := by
  have hd := h.nd
  have hl : decide (M < 2) = false := by simp; omega
  replace hl := Lib.hid hl
  clear hM
  go_enter Try.func63, Try.ntmps63
  go_wp2_with fail
  with_reducible refine (read_bs (by omega) h).mono ?_
  rintro e w1 ⟨a1, c1, rfl, hs1, hu1⟩
  go_wp2_with fail
  with_reducible refine (small_two w1).mono ?_
  rintro e w2 ⟨a2, c2, rfl, hs2, hu2⟩
  have h2 : nd 2 = 1 := rfl
  have k1 := less_any a1 a2 c1 c2 M 2 w2 (by omega) (by rw [h2]; omega) (hs1.keep hu2).rd hs2.rd
  rw [hl.out] at k1
  replace k1 := Lib.hid k1
  clear h2
  go_wp2_with fail
  with_reducible refine k1.out.mono ?_
  rintro e w3 ⟨rfl, hu3⟩
  replace hu3 := drewUpd hu3
  go_wp2_with fail
  go_ret2
  exact ⟨a1, c1, rfl, (hs1.keep hu2).keep hu3, (hu1.trans hu2).trans hu3⟩
set_option maxRecDepth 100000 in
set_option maxHeartbeats 1000000 in
theorem sModulus_no {a : Option Addr} {n c M : Nat} {w : World} (hn : n ≤ 10000) (h : Bs w a n c M) (hM : ¬ 1 < M) :
    Calls Try.prog 63 #[.slice a n c] w (RetNumB w M false) := by
  have hd := h.nd
  have hl : decide (M < 2) = true := by simp; omega
  replace hl := Lib.hid hl
  clear hM
  go_enter Try.func63, Try.ntmps63
  go_wp2_with fail
  with_reducible refine (read_bs (by omega) h).mono ?_
  rintro e w1 ⟨a1, c1, rfl, hs1, hu1⟩
  go_wp2_with fail
  with_reducible refine (small_two w1).mono ?_
  rintro e w2 ⟨a2, c2, rfl, hs2, hu2⟩
  have h2 : nd 2 = 1 := rfl
  have k1 := less_any a1 a2 c1 c2 M 2 w2 (by omega) (by rw [h2]; omega) (hs1.keep hu2).rd hs2.rd
  rw [hl.out] at k1
  replace k1 := Lib.hid k1
  clear h2
  go_wp2_with fail
  with_reducible refine k1.out.mono ?_
  rintro e w3 ⟨rfl, hu3⟩
  replace hu3 := drewUpd hu3
  go_wp2_with fail
  go_ret2
  exact ⟨a1, c1, rfl, (hs1.keep hu2).keep hu3, (hu1.trans hu2).trans hu3⟩
set_option maxRecDepth 100000 in
set_option maxHeartbeats 1000000 in
theorem sWithin_any {a a' : Option Addr} {n c c' X M : Nat} {w : World} (hn : n ≤ 10000) (hM : nd M ≤ 10000) (h : Bs w a n c X) (hm : Sl .i64 w a' (nd M) c' (dg 65536 M)) :
    Calls Try.prog 122 #[.slice a n c, .slice a' (nd M) c'] w (RetNumB w X (decide (X < M))) := by
  have hd := h.nd
  go_enter Try.func122, Try.ntmps122
  go_wp2_with fail
  with_reducible refine (read_bs (by omega) h).mono ?_
  rintro e w1 ⟨a1, c1, rfl, hs1, hu1⟩
  have k1 := less_any a1 a' c1 c' X M w1 (by omega) (by omega) hs1.rd (hm.keep hu1).rd
  obtain ⟨bb, Hb⟩ : ∃ bb, Hid (bb = decide (X < M)) := ⟨_, rfl⟩
  rw [← Hb.out] at k1
  replace k1 := Lib.hid k1
  go_wp2_with fail
  with_reducible refine k1.out.mono ?_
  rintro e w3 ⟨rfl, hu3⟩
  replace hu3 := drewUpd hu3
  go_wp2_with fail
  go_ret2
  exact ⟨a1, c1, by rw [Hb.out]; rfl, hs1.keep hu3, hu1.trans hu3⟩
/-- The numbers of both, and true. -/
def RetBoth (w : World) (X Y M : Nat) (e : Ending) (w' : World) : Prop :=
  ∃ a c a' c' a'' c'', e = .returned (.tuple #[.slice a (nd X) c, .slice a' (nd Y) c', .slice a'' (nd M) c'', .bool true]) ∧ Sl .i64 w' a (nd X) c (dg 65536 X) ∧ Sl .i64 w' a' (nd Y) c' (dg 65536 Y) ∧ Sl .i64 w' a'' (nd M) c'' (dg 65536 M) ∧ Upd0 w w'
/-- Both: false. -/
def RetBoth0 (w : World) (e : Ending) (w' : World) : Prop :=
  ∃ x y z, e = .returned (.tuple #[x, y, z, .bool false]) ∧ Upd0 w w'
set_option maxRecDepth 100000 in
set_option maxHeartbeats 1000000 in
theorem sBoth_yes {ax ay am : Option Addr} {nx cx ny cy nm cm X Y M : Nat} {w : World} (hnx : nx ≤ 10000) (hny : ny ≤ 10000) (hnm : nm ≤ 10000) (hx : Bs w ax nx cx X) (hy : Bs w ay ny cy Y) (hm : Bs w am nm cm M) (h1 : 1 < M) (h2 : X < M) (h3 : Y < M) :
    Calls Try.prog 83 #[.slice ax nx cx, .slice ay ny cy, .slice am nm cm] w (RetBoth w X Y M) := by
  have hdm := hm.nd
  have E1 := Lib.hid (decide_eq_true h2)
  have E2 := Lib.hid (decide_eq_true h3)
  go_enter Try.func83, Try.ntmps83
  go_wp2_with fail
  with_reducible refine (sModulus_yes hnm hm h1).mono ?_
  rintro e w1 ⟨am', cm', rfl, hsm, hu1⟩
  go_wp2_with fail
  have k1 := sWithin_any hnx (by omega) (hx.keep hu1) hsm
  rw [E1.out] at k1
  replace k1 := Lib.hid k1
  with_reducible refine k1.out.mono ?_
  rintro e w2 ⟨ax', cx', rfl, hsx, hu2⟩
  go_wp2_with fail
  have k2 := sWithin_any hny (by omega) ((hy.keep hu1).keep hu2) (hsm.keep hu2)
  rw [E2.out] at k2
  replace k2 := Lib.hid k2
  with_reducible refine k2.out.mono ?_
  rintro e w3 ⟨ay', cy', rfl, hsy, hu3⟩
  go_wp2_with fail
  exact bodyPost_ret (v := .tuple #[.slice ax' (nd X) cx', .slice ay' (nd Y) cy', .slice am' (nd M) cm', .bool true]) (by simp [results, Try.results83, go_sem]) rfl ⟨_, _, _, _, _, _, rfl, hsx.keep hu3, hsy, (hsm.keep hu2).keep hu3, (hu1.trans hu2).trans hu3⟩
set_option maxRecDepth 100000 in
set_option maxHeartbeats 1000000 in
theorem sBoth_no {ax ay am : Option Addr} {nx cx ny cy nm cm X Y M : Nat} {w : World} (hnx : nx ≤ 10000) (hny : ny ≤ 10000) (hnm : nm ≤ 10000) (hx : Bs w ax nx cx X) (hy : Bs w ay ny cy Y) (hm : Bs w am nm cm M) (h : ¬ (1 < M ∧ X < M ∧ Y < M)) :
    Calls Try.prog 83 #[.slice ax nx cx, .slice ay ny cy, .slice am nm cm] w (RetBoth0 w) := by
  have hdm := hm.nd
  by_cases h1 : 1 < M
  · by_cases h2 : X < M
    · have E1 := Lib.hid (decide_eq_true h2)
      have E2 : Hid (decide (Y < M) = false) := decide_eq_false (by omega)
      go_enter Try.func83, Try.ntmps83
      go_wp2_with fail
      with_reducible refine (sModulus_yes hnm hm h1).mono ?_
      rintro e w1 ⟨am', cm', rfl, hsm, hu1⟩
      go_wp2_with fail
      have k1 := sWithin_any hnx (by omega) (hx.keep hu1) hsm
      rw [E1.out] at k1
      replace k1 := Lib.hid k1
      with_reducible refine k1.out.mono ?_
      rintro e w2 ⟨ax', cx', rfl, hsx, hu2⟩
      go_wp2_with fail
      have k2 := sWithin_any hny (by omega) ((hy.keep hu1).keep hu2) (hsm.keep hu2)
      rw [E2.out] at k2
      replace k2 := Lib.hid k2
      with_reducible refine k2.out.mono ?_
      rintro e w3 ⟨ay', cy', rfl, hsy, hu3⟩
      go_wp2_with fail
      exact bodyPost_ret (v := .tuple #[.slice ax' (nd X) cx', .slice ay' (nd Y) cy', .slice am' (nd M) cm', .bool false]) (by simp [results, Try.results83, go_sem]) rfl ⟨_, _, _, rfl, (hu1.trans hu2).trans hu3⟩
    · have E1 := Lib.hid (decide_eq_false h2)
      obtain ⟨bb, Hb⟩ : ∃ bb, Hid (decide (Y < M) = bb) := ⟨_, rfl⟩
      go_enter Try.func83, Try.ntmps83
      go_wp2_with fail
      with_reducible refine (sModulus_yes hnm hm h1).mono ?_
      rintro e w1 ⟨am', cm', rfl, hsm, hu1⟩
      go_wp2_with fail
      have k1 := sWithin_any hnx (by omega) (hx.keep hu1) hsm
      rw [E1.out] at k1
      replace k1 := Lib.hid k1
      with_reducible refine k1.out.mono ?_
      rintro e w2 ⟨ax', cx', rfl, hsx, hu2⟩
      go_wp2_with fail
      have k2 := sWithin_any hny (by omega) ((hy.keep hu1).keep hu2) (hsm.keep hu2)
      rw [Hb.out] at k2
      replace k2 := Lib.hid k2
      with_reducible refine k2.out.mono ?_
      rintro e w3 ⟨ay', cy', rfl, hsy, hu3⟩
      go_wp2_with fail
      exact bodyPost_ret (v := .tuple #[.slice ax' (nd X) cx', .slice ay' (nd Y) cy', .slice am' (nd M) cm', .bool false]) (by simp [results, Try.results83, go_sem]) rfl ⟨_, _, _, rfl, (hu1.trans hu2).trans hu3⟩
  · go_enter Try.func83, Try.ntmps83
    go_wp2_with fail
    with_reducible refine (sModulus_no hnm hm h1).mono ?_
    rintro e w1 ⟨am', cm', rfl, hsm, hu1⟩
    go_wp2_with fail
    exact bodyPost_ret (v := .tuple #[.slice none 0 0, .slice none 0 0, .slice none 0 0, .bool false]) (by simp [results, Try.results83, go_sem]) rfl ⟨_, _, _, rfl, hu1⟩
set_option maxRecDepth 100000 in
set_option maxHeartbeats 1000000 in
theorem sTold_any {a a' : Option Addr} {c c' N M : Nat} {w : World} (hN : nd N ≤ 10000) (hM : nd M ≤ 10000) (h0 : 0 < M) (hsn : Sl .i64 w a (nd N) c (dg 65536 N)) (hsm : Sl .i64 w a' (nd M) c' (dg 65536 M)) :
    Calls Try.prog 85 #[.slice a (nd N) c, .slice a' (nd M) c'] w (RetOpt w (some (nb M, N % M))) := by
  have hb : blen M ≤ 160000 := by unfold nd at hM; omega
  have hnb : nb M ≤ 20000 := by unfold nb; omega
  have h8 : (((blen M : Nat) : Int) + 7) / 8 = ((nb M : Nat) : Int) := by unfold nb; omega
  have HR : Hid (N % M < 256 ^ nb M) := Nat.lt_trans (Nat.mod_lt N h0) (lt_pow_nb M)
  have HRn : Hid (nd (N % M) ≤ 10000) := Nat.le_trans (nd_mono (Nat.le_of_lt (Nat.mod_lt N h0))) hM
  have H8 := Lib.hid h8
  clear h8
  go_enter Try.func85, Try.ntmps85
  go_wp2_with fail
  with_reducible refine (quotient_any a a' c c' N M w hN hM h0 hsn hsm).mono ?_
  rintro e w1 ⟨aq, cq, ar, cr, rfl, hsq, hsr, hu1⟩
  go_wp2_with fail
  with_reducible refine (bits_any a' c' M w1 (by omega) (hsm.keep hu1).rd).mono ?_
  rintro e w' ⟨rfl, rfl⟩
  go_wp2_with fail
  rw [H8.out]
  with_reducible refine (octets_any ar cr (N % M) (nb M) w1 (by have := HRn.out; omega) (by omega) hsr.rd).mono ?_
  rintro e w2 ⟨a2, c2, rfl, hs2, hu2⟩
  go_wp2_with fail
  go_ret2
  exact ⟨a2, c2, rfl, .of_dg hs2 HR.out, hu1.trans hu2⟩
end Go.Proofs.Ytpojonfopoobpaa

namespace Go.Proofs.Ytpojonfopoobpaa
open Go.RowKit

theorem nd_add (A B : Nat) : nd (A + B) ≤ max (nd A) (nd B) + 1 := by
  rw [nd_le_iff, Nat.pow_succ]
  have h1 := (nd_le_iff (max (nd A) (nd B)) A).1 (by omega)
  have h2 := (nd_le_iff (max (nd A) (nd B)) B).1 (by omega)
  have hp := B_pos (max (nd A) (nd B))
  omega
theorem nd_mul (A B : Nat) : nd (A * B) ≤ nd A + nd B := by
  rw [nd_le_iff, Nat.pow_add]
  exact Nat.mul_lt_mul'' (lt_pow_nd A) (lt_pow_nd B)

set_option maxRecDepth 100000 in
set_option maxHeartbeats 1000000 in
theorem sSetBytes_bs {ax am : Option Addr} {nx cx nm cm X M : Nat} {w : World} (hnx : nx ≤ 4000) (hnm : nm ≤ 4000) (hx : Bs w ax nx cx X) (hm : Bs w am nm cm M) :
    Calls Try.prog 52 #[.slice ax nx cx, .slice am nm cm] w (RetOpt w (optN (1 < M ∧ X < M) M X)) := by
  have hdx := hx.nd
  have hdm := hm.nd
  by_cases h : 1 < M ∧ X < M
  · obtain ⟨h1, h2⟩ := h
    rw [optN_yes ⟨h1, h2⟩]
    have HE := Lib.hid (Nat.mod_eq_of_lt h2)
    go_enter Try.func52, Try.ntmps52
    go_wp2_with fail
    with_reducible refine (sBoth_yes (by omega) (by omega) (by omega) hx (Bs.emp _) hm h1 h2 (by omega)).mono ?_
    rintro e w1 ⟨a1, c1, a2, c2, a3, c3, rfl, hsx, hsy, hsm, hu1⟩
    have k1 := sTold_any (N := X) (M := M) (by omega) (by omega) (by omega) hsx hsm
    rw [HE.out] at k1
    replace k1 := Lib.hid k1
    go_wp2_with fail
    with_reducible refine k1.out.mono ?_
    rintro e w9 ⟨a9, c9, rfl, hs9, hu9⟩
    go_wp2_with fail
    go_ret2
    exact ⟨a9, c9, rfl, hs9, hu1.trans hu9⟩
  · rw [optN_no h]
    have h' : ¬ (1 < M ∧ X < M ∧ 0 < M) := by omega
    go_enter Try.func52, Try.ntmps52
    go_wp2_with fail
    with_reducible refine (sBoth_no (by omega) (by omega) (by omega) hx (Bs.emp _) hm h').mono ?_
    rintro e w1 ⟨x, y, z, rfl, hu1⟩
    go_wp2_with fail
    go_ret2
    exact ⟨rfl, hu1⟩
end Go.Proofs.Ytpojonfopoobpaa
