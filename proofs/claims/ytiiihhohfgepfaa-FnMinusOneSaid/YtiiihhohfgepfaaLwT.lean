/-
  Ring laws by calls alone.
-/
import Derived.Test.YtiiihhohfgepfaaLwH
namespace Go.Proofs.Ytiiihhohfgepfaa
open Go.RowKit

set_option maxRecDepth 100000 in
set_option maxHeartbeats 4000000 in
theorem law_FnMinusOne (ax : Option Addr) (nx cx : Nat) (fx : Nat → Nat) (am : Option Addr) (nm cm : Nat) (fm : Nat → Nat) (w : World) (hfx : ∀ i, i < nx → fx i < 256) (hsx : Sl .u8 w ax nx cx fx) (hfm : ∀ i, i < nm → fm i < 256) (hsm : Sl .u8 w am nm cm fm) :
    Calls Try.prog 13 #[.slice ax nx cx, .slice am nm cm] w (Holds1 w) := by
  obtain ⟨Xx, HXx⟩ : ∃ X, Hid (X = be fx nx) := ⟨_, rfl⟩
  have hx : Bs w ax nx cx Xx := by rw [HXx.out]; exact .mk' hfx hsx
  clear hfx hsx HXx
  obtain ⟨Xm, HXm⟩ : ∃ X, Hid (X = be fm nm) := ⟨_, rfl⟩
  have hm : Bs w am nm cm Xm := by rw [HXm.out]; exact .mk' hfm hsm
  clear hfm hsm HXm
  by_cases s0 : 2147483647 < nx
  · go_enter Try.func13, Try.ntmps13
    go_wp2_with fail
    go_ret
    exact ⟨rfl, .refl _ _⟩
  · skip
    by_cases s1 : 2147483647 < nm
    · go_enter Try.func13, Try.ntmps13
      go_wp2_with fail
      go_ret
      exact ⟨rfl, .refl _ _⟩
    · skip
      by_cases t0 : ¬ (nm ≤ 300 ∧ nx ≤ 300 ∧ nx ≤ nb Xm ∧ 1 < Xm ∧ Xx < Xm)
      · go_enter Try.func13, Try.ntmps13
        have u := Upd.refl (fun _ => False) w
        go_wp2_with fail
        with_reducible refine (in_no t0 hx hm).mono ?_
        rintro e v1 ⟨rfl, hu1⟩
        replace hx := hx.keep hu1
        replace hm := hm.keep hu1
        replace u := u.trans hu1
        clear hu1
        go_wp2_with fail
        go_ret
        exact ⟨rfl, u⟩
      · skip
        obtain ⟨S, HS⟩ : ∃ S, Hid (S = nb Xm) := ⟨_, rfl⟩
        have hSb : S ≤ 300 := by rw [HS.out]; exact Nat.le_trans hm.nb (by omega)
        have Rx : RM Xm Xx (Xx : Int) := .base _ _
        have Rnil : RM Xm 0 0 := .zero _
        have Rone : RM Xm 1 1 := .one _
        obtain ⟨Vp, HVp⟩ : ∃ V, Hid (V = (Xx + 1) % Xm) := ⟨_, rfl⟩
        have lp : Vp < Xm := by rw [HVp.out]; exact Nat.mod_lt _ (by omega)
        have Rp := RM.addm HVp.out Rx Rone
        obtain ⟨z, Hz⟩ : ∃ z, Hid (z = eqN Vp 0) := ⟨_, rfl⟩
        have Hz2 : Hid (eqN (Xx + 1) Xm = z) := by
          show _ = _
          rw [Hz.out, HVp.out]
          unfold eqN
          by_cases h : Xx + 1 = Xm
          · rw [if_pos h, h, Nat.mod_self, if_pos rfl]
          · rw [if_neg h, Nat.mod_eq_of_lt (by omega), if_neg (by omega)]
        have hz1 : z ≤ 1 := by rw [Hz.out]; exact eqN_le _ _
        have hzz : (((z : Nat) : Int) == ((z : Nat) : Int)) = true := by simp
        obtain ⟨Vq, HVq⟩ : ∃ V, Hid (V = (Vp + Xm - 1) % Xm) := ⟨_, rfl⟩
        have lq : Vq < Xm := by rw [HVq.out]; exact Nat.mod_lt _ (by omega)
        have Rq := RM.subm HVq.out (by omega) Rp Rone
        have Rt := Rx
        have E1 : Hid (Vq = Xx) := by
          show _ = _
          exact RM.done lq (by omega) Rq Rt (by grind)
        clear Rt Rq Rp Rone Rnil Rx
        go_enter Try.func13, Try.ntmps13
        have u := Upd.refl (fun _ => False) w
        go_wp2_with fail
        with_reducible refine (in_yes t0 hx hm).mono ?_
        rintro e v1 ⟨rfl, hu1⟩
        replace hx := hx.keep hu1
        replace hm := hm.keep hu1
        replace u := u.trans hu1
        clear hu1
        go_wp2_with fail
        have ua : Upd0 v1 (v1.alloc (.cells #[.int .u8 1] 5)) := (Upd.refl _ _).alloc _
        have h1 := Bs.one v1 1 (by omega) 5
        replace hx := hx.keep ua
        replace hm := hm.keep ua
        replace u := u.trans ua
        clear ua
        have kp := iAdd_bs (fun _ => by have := HS.out; omega) (fun _ => by have := nb_pos1 Xm; omega) (by omega) hx h1 hm
        rw [optN_yes (show 1 < Xm ∧ Xx < Xm ∧ 1 < Xm from ⟨by omega, by omega, by omega⟩), ← HS.out, ← HVp.out] at kp
        replace kp := Lib.hid kp
        go_wp2_with fail
        with_reducible refine (kp.out).mono ?_
        rintro e v2 ⟨adp, cdp, rfl, hp, hu2⟩
        replace hx := hx.keep hu2
        replace hm := hm.keep hu2
        replace u := u.trans hu2
        clear hu2
        clear h1
        have kt := iIsZero_bs (fun _ => by have := HS.out; omega) (by omega) hp hm
        rw [optI_yes (show 1 < Xm ∧ Vp < Xm from ⟨by omega, by omega⟩), ← Hz.out] at kt
        replace kt := Lib.hid kt
        go_wp2_with fail
        with_reducible refine (kt.out).mono ?_
        rintro e v3 ⟨rfl, hu3⟩
        replace hx := hx.keep hu3
        replace hm := hm.keep hu3
        replace hp := hp.keep hu3
        replace u := u.trans hu3
        clear hu3
        have kt := iIsMinusOne_bs (fun _ => by have := HS.out; omega) (by omega) hx hm
        rw [optI_yes (show 1 < Xm ∧ Xx < Xm from ⟨by omega, by omega⟩), Hz2.out] at kt
        replace kt := Lib.hid kt
        go_wp2_with fail
        with_reducible refine (kt.out).mono ?_
        rintro e v4 ⟨rfl, hu4⟩
        replace hx := hx.keep hu4
        replace hm := hm.keep hu4
        replace hp := hp.keep hu4
        replace u := u.trans hu4
        clear hu4
        have kq := iSubOne_bs (fun _ => by have := HS.out; omega) (by omega) hp hm
        rw [optN_yes (show 1 < Xm ∧ Vp < Xm from ⟨by omega, by omega⟩), ← HS.out, ← HVq.out] at kq
        replace kq := Lib.hid kq
        go_wp2_with fail
        with_reducible refine (kq.out).mono ?_
        rintro e v5 ⟨adq, cdq, rfl, hq, hu5⟩
        replace hx := hx.keep hu5
        replace hm := hm.keep hu5
        replace hp := hp.keep hu5
        replace u := u.trans hu5
        clear hu5
        have kt := set_bs (by have := HS.out; omega) (by omega) (by omega) (by omega) hx hm
        rw [← HS.out] at kt
        replace kt := Lib.hid kt
        go_wp2_with fail
        with_reducible refine (kt.out).mono ?_
        rintro e v6 ⟨adt, cdt, rfl, ht, hu6⟩
        replace hx := hx.keep hu6
        replace hm := hm.keep hu6
        replace hp := hp.keep hu6
        replace hq := hq.keep hu6
        replace u := u.trans hu6
        clear hu6
        go_wp2_with fail
        with_reducible refine (same_eq2 (by omega) hq ht E1.out).mono ?_
        rintro e v7 ⟨rfl, hu7⟩
        replace hx := hx.keep hu7
        replace hm := hm.keep hu7
        replace hp := hp.keep hu7
        replace hq := hq.keep hu7
        replace ht := ht.keep hu7
        replace u := u.trans hu7
        clear hu7
        go_wp2_with fail
        go_ret
        exact ⟨rfl, u⟩

set_option maxRecDepth 100000 in
set_option maxHeartbeats 4000000 in
theorem law_FnTell (ax : Option Addr) (nx cx : Nat) (fx : Nat → Nat) (ay : Option Addr) (ny cy : Nat) (fy : Nat → Nat) (am : Option Addr) (nm cm : Nat) (fm : Nat → Nat) (w : World) (hfx : ∀ i, i < nx → fx i < 256) (hsx : Sl .u8 w ax nx cx fx) (hfy : ∀ i, i < ny → fy i < 256) (hsy : Sl .u8 w ay ny cy fy) (hfm : ∀ i, i < nm → fm i < 256) (hsm : Sl .u8 w am nm cm fm) :
    Calls Try.prog 11 #[.slice ax nx cx, .slice ay ny cy, .slice am nm cm] w (Holds1 w) := by
  obtain ⟨Xx, HXx⟩ : ∃ X, Hid (X = be fx nx) := ⟨_, rfl⟩
  have hx : Bs w ax nx cx Xx := by rw [HXx.out]; exact .mk' hfx hsx
  clear hfx hsx HXx
  obtain ⟨Xy, HXy⟩ : ∃ X, Hid (X = be fy ny) := ⟨_, rfl⟩
  have hy : Bs w ay ny cy Xy := by rw [HXy.out]; exact .mk' hfy hsy
  clear hfy hsy HXy
  obtain ⟨Xm, HXm⟩ : ∃ X, Hid (X = be fm nm) := ⟨_, rfl⟩
  have hm : Bs w am nm cm Xm := by rw [HXm.out]; exact .mk' hfm hsm
  clear hfm hsm HXm
  by_cases s0 : 2147483647 < nx
  · go_enter Try.func11, Try.ntmps11
    go_wp2_with fail
    go_ret
    exact ⟨rfl, .refl _ _⟩
  · skip
    by_cases s1 : 2147483647 < ny
    · go_enter Try.func11, Try.ntmps11
      go_wp2_with fail
      go_ret
      exact ⟨rfl, .refl _ _⟩
    · skip
      by_cases s2 : 2147483647 < nm
      · go_enter Try.func11, Try.ntmps11
        go_wp2_with fail
        go_ret
        exact ⟨rfl, .refl _ _⟩
      · skip
        by_cases t0 : ¬ (nm ≤ 300 ∧ nx ≤ 300 ∧ nx ≤ nb Xm ∧ 1 < Xm ∧ Xx < Xm)
        · go_enter Try.func11, Try.ntmps11
          have u := Upd.refl (fun _ => False) w
          go_wp2_with fail
          with_reducible refine (in_no t0 hx hm).mono ?_
          rintro e v1 ⟨rfl, hu1⟩
          replace hx := hx.keep hu1
          replace hy := hy.keep hu1
          replace hm := hm.keep hu1
          replace u := u.trans hu1
          clear hu1
          go_wp2_with fail
          go_ret
          exact ⟨rfl, u⟩
        · skip
          by_cases t1 : ¬ (nm ≤ 300 ∧ ny ≤ 300 ∧ ny ≤ nb Xm ∧ 1 < Xm ∧ Xy < Xm)
          · go_enter Try.func11, Try.ntmps11
            have u := Upd.refl (fun _ => False) w
            go_wp2_with fail
            with_reducible refine (in_yes t0 hx hm).mono ?_
            rintro e v1 ⟨rfl, hu1⟩
            replace hx := hx.keep hu1
            replace hy := hy.keep hu1
            replace hm := hm.keep hu1
            replace u := u.trans hu1
            clear hu1
            go_wp2_with fail
            with_reducible refine (in_no t1 hy hm).mono ?_
            rintro e v2 ⟨rfl, hu2⟩
            replace hx := hx.keep hu2
            replace hy := hy.keep hu2
            replace hm := hm.keep hu2
            replace u := u.trans hu2
            clear hu2
            go_wp2_with fail
            go_ret
            exact ⟨rfl, u⟩
          · skip
            obtain ⟨S, HS⟩ : ∃ S, Hid (S = nb Xm) := ⟨_, rfl⟩
            have hSb : S ≤ 300 := by rw [HS.out]; exact Nat.le_trans hm.nb (by omega)
            have Rx : RM Xm Xx (Xx : Int) := .base _ _
            have Ry : RM Xm Xy (Xy : Int) := .base _ _
            have Rnil : RM Xm 0 0 := .zero _
            have Rone : RM Xm 1 1 := .one _
            obtain ⟨z, Hz⟩ : ∃ z, Hid (z = eqN Xx 0) := ⟨_, rfl⟩
            obtain ⟨o, Ho⟩ : ∃ z, Hid (z = Xx % 2) := ⟨_, rfl⟩
            obtain ⟨q, Hq⟩ : ∃ z, Hid (z = eqN Xx Xy) := ⟨_, rfl⟩
            obtain ⟨bz, Hbz⟩ : ∃ b, Hid (decide (Xx = 0) = b) := ⟨_, rfl⟩
            obtain ⟨bo, Hbo⟩ : ∃ b, Hid (decide (Xx % 2 = 1) = b) := ⟨_, rfl⟩
            obtain ⟨bq, Hbq⟩ : ∃ b, Hid (decide (Xx = Xy) = b) := ⟨_, rfl⟩
            have tz : (((z : Nat) : Int) == 1) = bz := by
              rw [← Hbz.out, Hz.out]; unfold eqN
              by_cases h : Xx = 0
              · rw [if_pos h, decide_eq_true h]; rfl
              · rw [if_neg h, decide_eq_false h]; rfl
            have t0d : (((o : Nat) : Int) == 1) = bo := by
              rw [← Hbo.out, Ho.out]
              rcases Nat.mod_two_eq_zero_or_one Xx with h | h <;> rw [h] <;> rfl
            have tq : (((q : Nat) : Int) == 1) = bq := by
              rw [← Hbq.out, Hq.out]; unfold eqN
              by_cases h : Xx = Xy
              · rw [if_pos h, decide_eq_true h]; rfl
              · rw [if_neg h, decide_eq_false h]; rfl
            have hz1 : z ≤ 1 := by rw [Hz.out]; exact eqN_le _ _
            have ho1 : o ≤ 1 := by rw [Ho.out]; omega
            have hq1 : q ≤ 1 := by rw [Hq.out]; exact eqN_le _ _
            have Rp := Rx
            have Rv := Ry
            clear Rv Rp Rone Rnil Ry Rx
            go_enter Try.func11, Try.ntmps11
            have u := Upd.refl (fun _ => False) w
            go_wp2_with fail
            with_reducible refine (in_yes t0 hx hm).mono ?_
            rintro e v1 ⟨rfl, hu1⟩
            replace hx := hx.keep hu1
            replace hy := hy.keep hu1
            replace hm := hm.keep hu1
            replace u := u.trans hu1
            clear hu1
            go_wp2_with fail
            with_reducible refine (in_yes t1 hy hm).mono ?_
            rintro e v2 ⟨rfl, hu2⟩
            replace hx := hx.keep hu2
            replace hy := hy.keep hu2
            replace hm := hm.keep hu2
            replace u := u.trans hu2
            clear hu2
            have kp := set_bs (by have := HS.out; omega) (by omega) (by omega) (by omega) hx hm
            rw [← HS.out] at kp
            replace kp := Lib.hid kp
            go_wp2_with fail
            with_reducible refine (kp.out).mono ?_
            rintro e v3 ⟨adp, cdp, rfl, hp, hu3⟩
            replace hx := hx.keep hu3
            replace hy := hy.keep hu3
            replace hm := hm.keep hu3
            replace u := u.trans hu3
            clear hu3
            have kv := set_bs (by have := HS.out; omega) (by omega) (by omega) (by omega) hy hm
            rw [← HS.out] at kv
            replace kv := Lib.hid kv
            go_wp2_with fail
            with_reducible refine (kv.out).mono ?_
            rintro e v4 ⟨adv, cdv, rfl, hv, hu4⟩
            replace hx := hx.keep hu4
            replace hy := hy.keep hu4
            replace hm := hm.keep hu4
            replace hp := hp.keep hu4
            replace u := u.trans hu4
            clear hu4
            have kt := iIsZero_bs (fun _ => by have := HS.out; omega) (by omega) hx hm
            rw [optI_yes (show 1 < Xm ∧ Xx < Xm from ⟨by omega, by omega⟩), ← Hz.out] at kt
            replace kt := Lib.hid kt
            go_wp2_with fail
            with_reducible refine (kt.out).mono ?_
            rintro e v5 ⟨rfl, hu5⟩
            replace hx := hx.keep hu5
            replace hy := hy.keep hu5
            replace hm := hm.keep hu5
            replace hp := hp.keep hu5
            replace hv := hv.keep hu5
            replace u := u.trans hu5
            clear hu5
            have kt := iIsOdd_bs (fun _ => by have := HS.out; omega) (by omega) hx hm
            rw [optI_yes (show 1 < Xm ∧ Xx < Xm from ⟨by omega, by omega⟩), ← Ho.out] at kt
            replace kt := Lib.hid kt
            go_wp2_with fail
            with_reducible refine (kt.out).mono ?_
            rintro e v6 ⟨rfl, hu6⟩
            replace hx := hx.keep hu6
            replace hy := hy.keep hu6
            replace hm := hm.keep hu6
            replace hp := hp.keep hu6
            replace hv := hv.keep hu6
            replace u := u.trans hu6
            clear hu6
            have kt := iEqual_bs (fun _ => by have := HS.out; omega) (fun _ => by have := HS.out; omega) (by omega) hx hy hm
            rw [optI_yes (show 1 < Xm ∧ Xx < Xm ∧ Xy < Xm from ⟨by omega, by omega, by omega⟩), ← Hq.out] at kt
            replace kt := Lib.hid kt
            go_wp2_with fail
            with_reducible refine (kt.out).mono ?_
            rintro e v7 ⟨rfl, hu7⟩
            replace hx := hx.keep hu7
            replace hy := hy.keep hu7
            replace hm := hm.keep hu7
            replace hp := hp.keep hu7
            replace hv := hv.keep hu7
            replace u := u.trans hu7
            clear hu7
            go_wp2_with fail
            with_reducible refine (zero_b (by omega) hp Hbz.out).mono ?_
            rintro e v8 ⟨rfl, hu8⟩
            replace hx := hx.keep hu8
            replace hy := hy.keep hu8
            replace hm := hm.keep hu8
            replace hp := hp.keep hu8
            replace hv := hv.keep hu8
            replace u := u.trans hu8
            clear hu8
            go_wp2_with fail
            with_reducible refine (odd_b (by omega) hp Hbo.out).mono ?_
            rintro e v9 ⟨rfl, hu9⟩
            replace hx := hx.keep hu9
            replace hy := hy.keep hu9
            replace hm := hm.keep hu9
            replace hp := hp.keep hu9
            replace hv := hv.keep hu9
            replace u := u.trans hu9
            clear hu9
            go_wp2_with fail
            with_reducible refine (same_b (by omega) hp hv Hbq.out).mono ?_
            rintro e v10 ⟨rfl, hu10⟩
            replace hx := hx.keep hu10
            replace hy := hy.keep hu10
            replace hm := hm.keep hu10
            replace hp := hp.keep hu10
            replace hv := hv.keep hu10
            replace u := u.trans hu10
            clear hu10
            go_wp2_with fail
            go_ret
            exact ⟨by first | rfl | exact ret_bool (by simp), u⟩






end Go.Proofs.Ytiiihhohfgepfaa
