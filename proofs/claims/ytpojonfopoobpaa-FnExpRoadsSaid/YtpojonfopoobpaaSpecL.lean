/-
  Contracts of the reference: IsOne, IsMinusOne, SetOverflowing, Exp, ExpShort, inverse, Inverse.
-/
import Derived.Test.YtpojonfopoobpaaSpecK
namespace Go.Proofs.Ytpojonfopoobpaa
open Go.RowKit

/-- The inverse of a modulo m exists where they have no common divisor. -/
theorem EuI.inv {a m : Nat} : ∀ s r x y, EuI a m r s x y → Nat.gcd a m = 1 → ∃ X, IsInv a m X := by
  intro s
  induction s using Nat.strongRecOn with
  | _ s ih =>
    intro r x y h hg
    rcases Nat.eq_zero_or_pos s with h0 | h0
    · subst h0
      have := h.done
      exact ⟨x, this.2 (by rw [this.1, hg])⟩
    · exact ih (r % s) (Nat.mod_lt _ h0) _ _ _ (h.next h0) hg
open Classical in
/-- The inverse of a modulo m. -/
noncomputable def invN (a m : Nat) : Nat := if h : ∃ X, IsInv a m X then Classical.choose h else 0
theorem IsInv.invN {a m X : Nat} (h : IsInv a m X) : X = Proofs.Ytpojonfopoobpaa.invN a m := by
  have hh : ∃ X, IsInv a m X := ⟨X, h⟩
  unfold Proofs.Ytpojonfopoobpaa.invN
  rw [dif_pos hh]
  exact h.unique (Classical.choose_spec hh)
theorem invN_is {a m : Nat} (hm : 1 < m) (ha : a < m) (hg : Nat.gcd a m = 1) : IsInv a m (invN a m) := by
  obtain ⟨X, h⟩ := EuI.inv _ _ _ _ (EuI.start hm ha) hg
  rw [← h.invN]
  exact h
set_option maxRecDepth 100000 in
set_option maxHeartbeats 4000000 in
theorem sinv_yes (ax am : Option Addr) (cx cm a m : Nat) (w : World) (hm : nd m ≤ 4000) (h1 : 1 < m) (h2 : a < m) (hg : Nat.gcd a m = 1) (hsx : Sl .i64 w ax (nd a) cx (dg 65536 a)) (hsm : Sl .i64 w am (nd m) cm (dg 65536 m)) :
    Calls Try.prog 84 #[.slice ax (nd a) cx, .slice am (nd m) cm] w (RetNumB w (invN a m) true) := by
  have HG := Lib.hid hg
  have hna : nd a ≤ 4000 := Nat.le_trans (nd_mono (Nat.le_of_lt h2)) hm
  have HRn : Hid (∀ z, z ≤ m → nd z ≤ 4000) := fun z hz => Nat.le_trans (nd_mono hz) hm
  have HS := Lib.hid (EuI.start h1 h2)
  clear hg
  go_enter Try.func84, Try.ntmps84
  go_wp2_with fail
  have ua : Upd0 w (w.alloc (.cells #[] 3)) := (Upd.refl _ _).alloc _
  with_reducible refine (small_one _).mono ?_
  rintro e w1 ⟨a1, c1, rfl, hs1, hu1⟩
  replace hu1 := ua.trans hu1
  have hsx1 := hsx.keep hu1
  have hsm1 := hsm.keep hu1
  go_wp2_with fail
  go_loopg [6, 7, 8, 9] a (fun k r s x y wr => ∃ R S X Y, NumIn wr R r ∧ NumIn wr S s ∧ NumIn wr X x ∧ NumIn wr Y y ∧ Hid (EuI a m R S X Y) ∧ S ≤ k ∧ Upd0 w wr)
  case atStart => exact ⟨m, a, 0, 1, ⟨_, _, rfl, hsm1⟩, ⟨_, _, rfl, hsx1⟩, ⟨_, _, rfl, ⟨Nat.le_refl _, .nil _ _ _, fun e => by cases e⟩⟩, ⟨_, _, rfl, hs1⟩, HS, Nat.le_refl _, hu1⟩
  case round =>
    clear hsx1 hsm1 hs1 hu1 ua
    obtain ⟨R, S, X, Y, ⟨ar, cr, rfl, hsr⟩, ⟨as1, cs, rfl, hss⟩, ⟨ax', cx', rfl, hsX⟩, ⟨ay', cy', rfl, hsY⟩, HI, hSk, hu⟩ := hrel
    have hnR : nd R ≤ 4000 := HRn.out _ HI.out.lr
    have hnS : nd S ≤ 4000 := HRn.out _ (Nat.le_of_lt HI.out.ls)
    have hnX : nd X ≤ 4000 := HRn.out _ (Nat.le_of_lt HI.out.hx)
    have hnY : nd Y ≤ 4000 := HRn.out _ (Nat.le_of_lt HI.out.hy)
    rcases Nat.eq_zero_or_pos S with h0 | h0
    · subst h0
      have hn0 : nd 0 = 0 := rfl
      have HD := Lib.hid HI.out.done
      obtain rfl : R = 1 := by rw [HD.out.1]; exact HG.out
      have HV : Hid (X = invN a m) := (HD.out.2 rfl).invN
      have hn1 : nd 1 = 1 := rfl
      have hd1 : dg 65536 1 0 = 1 := rfl
      obtain ⟨br, off, rfl, hcr⟩ := hsr.rd.open (by omega)
      have hcell := hcr 0 (by omega)
      rw [hd1] at hcell
      rw [Nat.add_zero] at hcell
      go_wp2_with fail
      go_quiet (fail)
      rename_i nq
      go_wp2_with fail
      go_ret2
      exact ⟨ax', cx', by rw [← HV.out]; rfl, by rw [← HV.out]; exact hsX.keep ((Upd.refl _ _).drewN nq), hu.drewN nq⟩
    · have hp : 0 < nd S := nd_pos (by omega)
      have hp' : (0 : Int) < ((nd S : Nat) : Int) := by omega
      have HN := Lib.hid (HI.out.next h0)
      have HM : Hid (R % S < S) := Nat.mod_lt R h0
      have k1 := Lib.hid (quotient_any ar as1 cr cs R S wr (by omega) (by omega) h0 hsr hss)
      go_wp2_with fail
      with_reducible refine k1.out.mono ?_
      rintro e w2 ⟨a3, c3, a4, c4, rfl, hs3, hs4, hu2⟩
      have hnQ : nd (R / S) ≤ 4000 := Nat.le_trans (nd_mono (Nat.div_le_self R S)) hnR
      have hm2 := nd_mul (R / S) Y
      go_wp2_with fail
      with_reducible refine (product_any a3 ay' c3 cy' (R / S) Y w2 (by omega) (by omega) hs3.rd (hsY.keep hu2).rd).mono ?_
      rintro e w3 ⟨a5, c5, rfl, hs5, hu3⟩
      have k2 := Lib.hid (quotient_any a5 am c5 cm (R / S * Y) m w3 (by omega) (by omega) (by omega) hs5 (((hsm.keep hu).keep hu2).keep hu3))
      go_wp2_with fail
      with_reducible refine k2.out.mono ?_
      rintro e w4 ⟨a6, c6, a7, c7, rfl, hs6, hs7, hu4⟩
      have hsX4 := ((hsX.keep hu2).keep hu3).keep hu4
      have hsm4 := (((hsm.keep hu).keep hu2).keep hu3).keep hu4
      have hnA := nd_add X m
      have HB : Hid (R / S * Y % m < m) := Nat.mod_lt _ (by omega)
      have hnB : nd (R / S * Y % m) ≤ 4000 := HRn.out _ (Nat.le_of_lt HB.out)
      go_wp2_with fail
      with_reducible refine (sum_any ax' am cx' cm X m w4 (by omega) (by omega) hsX4 hsm4).mono ?_
      rintro e w5 ⟨a8, c8, rfl, hs8, hu5⟩
      obtain ⟨B, HBe⟩ : ∃ B, Hid (B = R / S * Y % m) := ⟨_, rfl⟩
      rw [← HBe.out] at hs7 HB hnB ⊢
      have hnD : nd (X + m - B) ≤ nd (X + m) := nd_mono (Nat.sub_le _ _)
      go_wp2_with fail
      with_reducible refine (difference_any a8 a7 c8 c7 (X + m) B w5 (by omega) (by omega) (by have := HB.out; omega) hs8 (hs7.keep hu5)).mono ?_
      rintro e w6 ⟨a9, c9, rfl, hs9, hu6⟩
      have k3 := Lib.hid (quotient_any a9 am c9 cm (X + m - B) m w6 (by omega) (by omega) (by omega) hs9 ((hsm4.keep hu5).keep hu6))
      go_wp2_with fail
      with_reducible refine k3.out.mono ?_
      rintro e w7 ⟨a10, c10, a11, c11, rfl, hs10, hs11, hu7⟩
      have hu27 := ((((hu2.trans hu3).trans hu4).trans hu5).trans hu6).trans hu7
      have hu37 := ((((hu3).trans hu4).trans hu5).trans hu6).trans hu7
      go_wp2_with fail
      go_roundg (R % S)
      case measure => have := HM.out; omega
      case rel => exact ⟨S, R % S, Y, (X + m - B) % m, ⟨_, _, rfl, hss.keep hu27⟩, ⟨_, _, rfl, hs4.keep hu37⟩, ⟨_, _, rfl, hsY.keep hu27⟩, ⟨_, _, rfl, hs11⟩, by have := HN.out; rw [← HBe.out] at this; exact this, Nat.le_refl _, hu.trans hu27⟩
set_option maxRecDepth 100000 in
set_option maxHeartbeats 4000000 in
theorem sinv_no (ax am : Option Addr) (cx cm a m : Nat) (w : World) (hm : nd m ≤ 4000) (h1 : 1 < m) (h2 : a < m) (hg : ¬ Nat.gcd a m = 1) (hsx : Sl .i64 w ax (nd a) cx (dg 65536 a)) (hsm : Sl .i64 w am (nd m) cm (dg 65536 m)) :
    Calls Try.prog 84 #[.slice ax (nd a) cx, .slice am (nd m) cm] w (fun e w' => ∃ x, e = .returned (.tuple #[x, .bool false]) ∧ Upd0 w w') := by
  have HG := Lib.hid hg
  have hna : nd a ≤ 4000 := Nat.le_trans (nd_mono (Nat.le_of_lt h2)) hm
  have HRn : Hid (∀ z, z ≤ m → nd z ≤ 4000) := fun z hz => Nat.le_trans (nd_mono hz) hm
  have HS := Lib.hid (EuI.start h1 h2)
  clear hg
  go_enter Try.func84, Try.ntmps84
  go_wp2_with fail
  have ua : Upd0 w (w.alloc (.cells #[] 3)) := (Upd.refl _ _).alloc _
  with_reducible refine (small_one _).mono ?_
  rintro e w1 ⟨a1, c1, rfl, hs1, hu1⟩
  replace hu1 := ua.trans hu1
  have hsx1 := hsx.keep hu1
  have hsm1 := hsm.keep hu1
  go_wp2_with fail
  go_loopg [6, 7, 8, 9] a (fun k r s x y wr => ∃ R S X Y, NumIn wr R r ∧ NumIn wr S s ∧ NumIn wr X x ∧ NumIn wr Y y ∧ Hid (EuI a m R S X Y) ∧ S ≤ k ∧ Upd0 w wr)
  case atStart => exact ⟨m, a, 0, 1, ⟨_, _, rfl, hsm1⟩, ⟨_, _, rfl, hsx1⟩, ⟨_, _, rfl, ⟨Nat.le_refl _, .nil _ _ _, fun e => by cases e⟩⟩, ⟨_, _, rfl, hs1⟩, HS, Nat.le_refl _, hu1⟩
  case round =>
    clear hsx1 hsm1 hs1 hu1 ua
    obtain ⟨R, S, X, Y, ⟨ar, cr, rfl, hsr⟩, ⟨as1, cs, rfl, hss⟩, ⟨ax', cx', rfl, hsX⟩, ⟨ay', cy', rfl, hsY⟩, HI, hSk, hu⟩ := hrel
    have hnR : nd R ≤ 4000 := HRn.out _ HI.out.lr
    have hnS : nd S ≤ 4000 := HRn.out _ (Nat.le_of_lt HI.out.ls)
    have hnX : nd X ≤ 4000 := HRn.out _ (Nat.le_of_lt HI.out.hx)
    have hnY : nd Y ≤ 4000 := HRn.out _ (Nat.le_of_lt HI.out.hy)
    rcases Nat.eq_zero_or_pos S with h0 | h0
    · subst h0
      have hn0 : nd 0 = 0 := rfl
      have HD := Lib.hid HI.out.done
      have hne : R ≠ 1 := fun h => HG.out (by rw [← HD.out.1]; exact h)
      have hRp : 0 < nd R := nd_pos (by have := HI.out.hr; omega)
      by_cases h1d : nd R = 1
      · have hlt := lt_pow_nd R
        rw [h1d, Nat.pow_one] at hlt
        obtain ⟨br, off, rfl, hcr⟩ := hsr.rd.open (by omega)
        have hcell := hcr 0 (by omega)
        rw [dg_zero, Nat.mod_eq_of_lt hlt, Nat.add_zero] at hcell
        have e1 : (((nd R : Nat) : Int) == 1) = true := by rw [h1d]; rfl
        have e2 : ((R : Int) == 1) = false := by rw [beq_eq_false_iff_ne]; omega
        go_wp2_with fail
        go_quiet (fail)
        rename_i nq
        go_wp2_with fail
        go_ret2
        exact ⟨_, rfl, hu.drewN nq⟩
      · have e1 : (((nd R : Nat) : Int) == 1) = false := by rw [beq_eq_false_iff_ne]; omega
        go_wp2_with fail
        go_quiet (fail)
        rename_i nq
        go_wp2_with fail
        go_ret2
        exact ⟨_, rfl, hu.drewN nq⟩
    · have hp : 0 < nd S := nd_pos (by omega)
      have hp' : (0 : Int) < ((nd S : Nat) : Int) := by omega
      have HN := Lib.hid (HI.out.next h0)
      have HM : Hid (R % S < S) := Nat.mod_lt R h0
      have k1 := Lib.hid (quotient_any ar as1 cr cs R S wr (by omega) (by omega) h0 hsr hss)
      go_wp2_with fail
      with_reducible refine k1.out.mono ?_
      rintro e w2 ⟨a3, c3, a4, c4, rfl, hs3, hs4, hu2⟩
      have hnQ : nd (R / S) ≤ 4000 := Nat.le_trans (nd_mono (Nat.div_le_self R S)) hnR
      have hm2 := nd_mul (R / S) Y
      go_wp2_with fail
      with_reducible refine (product_any a3 ay' c3 cy' (R / S) Y w2 (by omega) (by omega) hs3.rd (hsY.keep hu2).rd).mono ?_
      rintro e w3 ⟨a5, c5, rfl, hs5, hu3⟩
      have k2 := Lib.hid (quotient_any a5 am c5 cm (R / S * Y) m w3 (by omega) (by omega) (by omega) hs5 (((hsm.keep hu).keep hu2).keep hu3))
      go_wp2_with fail
      with_reducible refine k2.out.mono ?_
      rintro e w4 ⟨a6, c6, a7, c7, rfl, hs6, hs7, hu4⟩
      have hsX4 := ((hsX.keep hu2).keep hu3).keep hu4
      have hsm4 := (((hsm.keep hu).keep hu2).keep hu3).keep hu4
      have hnA := nd_add X m
      have HB : Hid (R / S * Y % m < m) := Nat.mod_lt _ (by omega)
      have hnB : nd (R / S * Y % m) ≤ 4000 := HRn.out _ (Nat.le_of_lt HB.out)
      go_wp2_with fail
      with_reducible refine (sum_any ax' am cx' cm X m w4 (by omega) (by omega) hsX4 hsm4).mono ?_
      rintro e w5 ⟨a8, c8, rfl, hs8, hu5⟩
      obtain ⟨B, HBe⟩ : ∃ B, Hid (B = R / S * Y % m) := ⟨_, rfl⟩
      rw [← HBe.out] at hs7 HB hnB ⊢
      have hnD : nd (X + m - B) ≤ nd (X + m) := nd_mono (Nat.sub_le _ _)
      go_wp2_with fail
      with_reducible refine (difference_any a8 a7 c8 c7 (X + m) B w5 (by omega) (by omega) (by have := HB.out; omega) hs8 (hs7.keep hu5)).mono ?_
      rintro e w6 ⟨a9, c9, rfl, hs9, hu6⟩
      have k3 := Lib.hid (quotient_any a9 am c9 cm (X + m - B) m w6 (by omega) (by omega) (by omega) hs9 ((hsm4.keep hu5).keep hu6))
      go_wp2_with fail
      with_reducible refine k3.out.mono ?_
      rintro e w7 ⟨a10, c10, a11, c11, rfl, hs10, hs11, hu7⟩
      have hu27 := ((((hu2.trans hu3).trans hu4).trans hu5).trans hu6).trans hu7
      have hu37 := ((((hu3).trans hu4).trans hu5).trans hu6).trans hu7
      go_wp2_with fail
      go_roundg (R % S)
      case measure => have := HM.out; omega
      case rel => exact ⟨S, R % S, Y, (X + m - B) % m, ⟨_, _, rfl, hss.keep hu27⟩, ⟨_, _, rfl, hs4.keep hu37⟩, ⟨_, _, rfl, hsY.keep hu27⟩, ⟨_, _, rfl, hs11⟩, by have := HN.out; rw [← HBe.out] at this; exact this, Nat.le_refl _, hu.trans hu27⟩
set_option maxRecDepth 100000 in
set_option maxHeartbeats 1000000 in
theorem sInverse_bs {ax am : Option Addr} {nx cx nm cm X M : Nat} {w : World} (hnx : nx ≤ 4000) (hnm : nm ≤ 4000) (hx : Bs w ax nx cx X) (hm : Bs w am nm cm M) :
    Calls Try.prog 51 #[.slice ax nx cx, .slice am nm cm] w (RetOpt w (optN (1 < M ∧ X < M ∧ Nat.gcd X M = 1) M (invN X M))) := by
  have hdx := hx.nd
  have hdm := hm.nd
  by_cases h : 1 < M ∧ X < M
  · obtain ⟨h1, h2⟩ := h
    by_cases hg : Nat.gcd X M = 1
    · rw [optN_yes ⟨h1, h2, hg⟩]
      have HL := Lib.hid (invN_is h1 h2 hg).lt
      have HE := Lib.hid (Nat.mod_eq_of_lt HL.out)
      have HRn : Hid (nd (invN X M) ≤ 4000) := Nat.le_trans (nd_mono (Nat.le_of_lt HL.out)) (by omega)
      go_enter Try.func51, Try.ntmps51
      go_wp2_with fail
      with_reducible refine (sBoth_yes (by omega) (by omega) (by omega) hx (Bs.emp _) hm h1 h2 (by omega)).mono ?_
      rintro e w1 ⟨a1, c1, a2, c2, a3, c3, rfl, hsx, hsy, hsm, hu1⟩
      go_wp2_with fail
      with_reducible refine (sinv_yes a1 a3 c1 c3 X M w1 (by omega) h1 h2 hg hsx hsm).mono ?_
      rintro e w2 ⟨a4, c4, rfl, hs4, hu2⟩
      have k1 := sTold_any (by have := HRn.out; omega) (by omega) (by omega) hs4 (hsm.keep hu2)
      rw [HE.out] at k1
      replace k1 := Lib.hid k1
      go_wp2_with fail
      with_reducible refine k1.out.mono ?_
      rintro e w9 ⟨a9, c9, rfl, hs9, hu9⟩
      go_wp2_with fail
      go_ret2
      exact ⟨a9, c9, rfl, hs9, (hu1.trans hu2).trans hu9⟩
    · rw [optN_no (fun h => hg h.2.2)]
      go_enter Try.func51, Try.ntmps51
      go_wp2_with fail
      with_reducible refine (sBoth_yes (by omega) (by omega) (by omega) hx (Bs.emp _) hm h1 h2 (by omega)).mono ?_
      rintro e w1 ⟨a1, c1, a2, c2, a3, c3, rfl, hsx, hsy, hsm, hu1⟩
      go_wp2_with fail
      with_reducible refine (sinv_no a1 a3 c1 c3 X M w1 (by omega) h1 h2 hg hsx hsm).mono ?_
      rintro e w2 ⟨x, rfl, hu2⟩
      go_wp2_with fail
      go_ret2
      exact ⟨rfl, hu1.trans hu2⟩
  · rw [optN_no (fun h' => h ⟨h'.1, h'.2.1⟩)]
    have h' : ¬ (1 < M ∧ X < M ∧ 0 < M) := by omega
    go_enter Try.func51, Try.ntmps51
    go_wp2_with fail
    with_reducible refine (sBoth_no (by omega) (by omega) (by omega) hx (Bs.emp _) hm h').mono ?_
    rintro e w1 ⟨x, y, z, rfl, hu1⟩
    go_wp2_with fail
    go_ret2
    exact ⟨rfl, hu1⟩
end Go.Proofs.Ytpojonfopoobpaa
