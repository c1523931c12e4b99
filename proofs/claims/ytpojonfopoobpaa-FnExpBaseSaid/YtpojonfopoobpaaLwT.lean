/-
  Ring laws by calls alone.
-/
import Derived.Test.YtpojonfopoobpaaLwH
namespace Go.Proofs.Ytpojonfopoobpaa
open Go.RowKit



set_option maxRecDepth 100000 in
set_option maxHeartbeats 4000000 in
theorem law_FnWidth (ax : Option Addr) (nx cx : Nat) (fx : Nat → Nat) (ay : Option Addr) (ny cy : Nat) (fy : Nat → Nat) (am : Option Addr) (nm cm : Nat) (fm : Nat → Nat) (w : World) (hfx : ∀ i, i < nx → fx i < 256) (hsx : Sl .u8 w ax nx cx fx) (hfy : ∀ i, i < ny → fy i < 256) (hsy : Sl .u8 w ay ny cy fy) (hfm : ∀ i, i < nm → fm i < 256) (hsm : Sl .u8 w am nm cm fm) :
    Calls Try.prog 14 #[.slice ax nx cx, .slice ay ny cy, .slice am nm cm] w (Holds1 w) := by
  obtain ⟨Xx, HXx⟩ : ∃ X, Hid (X = be fx nx) := ⟨_, rfl⟩
  have hx : Bs w ax nx cx Xx := by rw [HXx.out]; exact .mk' hfx hsx
  clear hfx hsx HXx
  obtain ⟨Xy, HXy⟩ : ∃ X, Hid (X = be fy ny) := ⟨_, rfl⟩
  have hy : Bs w ay ny cy Xy := by rw [HXy.out]; exact .mk' hfy hsy
  clear hfy hsy HXy
  obtain ⟨Xm, HXm⟩ : ∃ X, Hid (X = be fm nm) := ⟨_, rfl⟩
  have hm : Bs w am nm cm Xm := by rw [HXm.out]; exact .mk' hfm hsm
  clear hfm hsm HXm
  by_cases s0 : 2147483647 < nx
  · go_enter Try.func14, Try.ntmps14
    go_wp2_with fail
    go_ret
    exact ⟨rfl, .refl _ _⟩
  · skip
    by_cases s1 : 2147483647 < ny
    · go_enter Try.func14, Try.ntmps14
      go_wp2_with fail
      go_ret
      exact ⟨rfl, .refl _ _⟩
    · skip
      by_cases s2 : 2147483647 < nm
      · go_enter Try.func14, Try.ntmps14
        go_wp2_with fail
        go_ret
        exact ⟨rfl, .refl _ _⟩
      · skip
        by_cases t0 : ¬ (nm ≤ 300 ∧ nx ≤ 300 ∧ nx ≤ nb Xm ∧ 1 < Xm ∧ Xx < Xm)
        · go_enter Try.func14, Try.ntmps14
          have u := Upd.refl (fun _ => False) w
          go_wp2_with fail
          with_reducible refine (in_no t0 hx hm).mono ?_
          rintro e v1 ⟨rfl, hu1⟩
          replace hx := hx.keep hu1
          replace hy := hy.keep hu1
          replace hm := hm.keep hu1
          replace u := u.trans hu1
          clear hu1
          go_wp2_with fail
          go_ret
          exact ⟨rfl, u⟩
        · skip
          by_cases t1 : ¬ (nm ≤ 300 ∧ ny ≤ 300 ∧ ny ≤ nb Xm ∧ 1 < Xm ∧ Xy < Xm)
          · go_enter Try.func14, Try.ntmps14
            have u := Upd.refl (fun _ => False) w
            go_wp2_with fail
            with_reducible refine (in_yes t0 hx hm).mono ?_
            rintro e v1 ⟨rfl, hu1⟩
            replace hx := hx.keep hu1
            replace hy := hy.keep hu1
            replace hm := hm.keep hu1
            replace u := u.trans hu1
            clear hu1
            go_wp2_with fail
            with_reducible refine (in_no t1 hy hm).mono ?_
            rintro e v2 ⟨rfl, hu2⟩
            replace hx := hx.keep hu2
            replace hy := hy.keep hu2
            replace hm := hm.keep hu2
            replace u := u.trans hu2
            clear hu2
            go_wp2_with fail
            go_ret
            exact ⟨rfl, u⟩
          · skip
            obtain ⟨S, HS⟩ : ∃ S, Hid (S = nb Xm) := ⟨_, rfl⟩
            have hSb : S ≤ 300 := by rw [HS.out]; exact Nat.le_trans hm.nb (by omega)
            have Rx : RM Xm Xx (Xx : Int) := .base _ _
            have Ry : RM Xm Xy (Xy : Int) := .base _ _
            have Rnil : RM Xm 0 0 := .zero _
            have Rone : RM Xm 1 1 := .one _
            obtain ⟨lb, Hlb⟩ : ∃ l, Hid (l = blen Xm) := ⟨_, rfl⟩
            have hlb := hm.blen
            rw [← Hlb.out] at hlb
            have hl8 : (((lb : Nat) : Int) + 7) / 8 = ((S : Nat) : Int) := by
              have h : (lb + 7) / 8 = S := by rw [HS.out, Hlb.out]; rfl
              omega
            replace hl8 := Lib.hid hl8
            obtain ⟨Vp, HVp⟩ : ∃ V, Hid (V = (Xx + Xy) % Xm) := ⟨_, rfl⟩
            have lp : Vp < Xm := by rw [HVp.out]; exact Nat.mod_lt _ (by omega)
            have Rp := RM.addm HVp.out Rx Ry
            obtain ⟨Vq, HVq⟩ : ∃ V, Hid (V = (Xx * Xy) % Xm) := ⟨_, rfl⟩
            have lq : Vq < Xm := by rw [HVq.out]; exact Nat.mod_lt _ (by omega)
            have Rq := RM.mulm HVq.out Rx Ry
            obtain ⟨Vr, HVr⟩ : ∃ V, Hid (V = Xx % Xm) := ⟨_, rfl⟩
            have lr : Vr < Xm := by rw [HVr.out]; exact Nat.mod_lt _ (by omega)
            have Rr := RM.of_mod HVr.out Rx
            clear Rr Rq Rp Rone Rnil Ry Rx
            go_enter Try.func14, Try.ntmps14
            have u := Upd.refl (fun _ => False) w
            go_wp2_with fail
            with_reducible refine (in_yes t0 hx hm).mono ?_
            rintro e v1 ⟨rfl, hu1⟩
            replace hx := hx.keep hu1
            replace hy := hy.keep hu1
            replace hm := hm.keep hu1
            replace u := u.trans hu1
            clear hu1
            go_wp2_with fail
            with_reducible refine (in_yes t1 hy hm).mono ?_
            rintro e v2 ⟨rfl, hu2⟩
            replace hx := hx.keep hu2
            replace hy := hy.keep hu2
            replace hm := hm.keep hu2
            replace u := u.trans hu2
            clear hu2
            have kt := iModulusSize_yes (by omega) hm (by omega)
            rw [← HS.out, ← Hlb.out] at kt
            replace kt := Lib.hid kt
            go_wp2_with fail
            with_reducible refine (kt.out).mono ?_
            rintro e v3 ⟨rfl, hu3⟩
            replace hx := hx.keep hu3
            replace hy := hy.keep hu3
            replace hm := hm.keep hu3
            replace u := u.trans hu3
            clear hu3
            have kp := iAdd_bs (fun _ => by have := HS.out; omega) (fun _ => by have := HS.out; omega) (by omega) hx hy hm
            rw [optN_yes (show 1 < Xm ∧ Xx < Xm ∧ Xy < Xm from ⟨by omega, by omega, by omega⟩), ← HS.out, ← HVp.out] at kp
            replace kp := Lib.hid kp
            go_wp2_with fail
            with_reducible refine (kp.out).mono ?_
            rintro e v4 ⟨adp, cdp, rfl, hp, hu4⟩
            replace hx := hx.keep hu4
            replace hy := hy.keep hu4
            replace hm := hm.keep hu4
            replace u := u.trans hu4
            clear hu4
            have kq := iMul_bs (fun _ => by have := HS.out; omega) (fun _ => by have := HS.out; omega) (by omega) hx hy hm
            rw [optN_yes (show 1 < Xm ∧ Xx < Xm ∧ Xy < Xm from ⟨by omega, by omega, by omega⟩), ← HS.out, ← HVq.out] at kq
            replace kq := Lib.hid kq
            go_wp2_with fail
            with_reducible refine (kq.out).mono ?_
            rintro e v5 ⟨adq, cdq, rfl, hq, hu5⟩
            replace hx := hx.keep hu5
            replace hy := hy.keep hu5
            replace hm := hm.keep hu5
            replace hp := hp.keep hu5
            replace u := u.trans hu5
            clear hu5
            have kr := iMod_bs (by omega) (by omega) hx hm
            rw [optN_yes (show 1 < Xm by omega), ← HS.out, ← HVr.out] at kr
            replace kr := Lib.hid kr
            go_wp2_with fail
            with_reducible refine (kr.out).mono ?_
            rintro e v6 ⟨adr, cdr, rfl, hr, hu6⟩
            replace hx := hx.keep hu6
            replace hy := hy.keep hu6
            replace hm := hm.keep hu6
            replace hp := hp.keep hu6
            replace hq := hq.keep hu6
            replace u := u.trans hu6
            clear hu6
            have h8 := hl8.out
            have kt := iBitLen_bs (by omega) hm
            rw [← Hlb.out] at kt
            replace kt := Lib.hid kt
            go_wp2_with fail
            with_reducible refine (kt.out).mono ?_
            rintro e v7 ⟨rfl, hu7⟩
            replace hx := hx.keep hu7
            replace hy := hy.keep hu7
            replace hm := hm.keep hu7
            replace hp := hp.keep hu7
            replace hq := hq.keep hu7
            replace hr := hr.keep hu7
            replace u := u.trans hu7
            clear hu7
            go_wp2_with fail
            go_ret
            exact ⟨by first | rfl | exact ret_bool (by simp), u⟩

set_option maxRecDepth 100000 in
set_option maxHeartbeats 4000000 in
theorem law_FnModTwice (ax : Option Addr) (nx cx : Nat) (fx : Nat → Nat) (am : Option Addr) (nm cm : Nat) (fm : Nat → Nat) (w : World) (hfx : ∀ i, i < nx → fx i < 256) (hsx : Sl .u8 w ax nx cx fx) (hfm : ∀ i, i < nm → fm i < 256) (hsm : Sl .u8 w am nm cm fm) :
    Calls Try.prog 7 #[.slice ax nx cx, .slice am nm cm] w (Holds1 w) := by
  obtain ⟨Xx, HXx⟩ : ∃ X, Hid (X = be fx nx) := ⟨_, rfl⟩
  have hx : Bs w ax nx cx Xx := by rw [HXx.out]; exact .mk' hfx hsx
  clear hfx hsx HXx
  obtain ⟨Xm, HXm⟩ : ∃ X, Hid (X = be fm nm) := ⟨_, rfl⟩
  have hm : Bs w am nm cm Xm := by rw [HXm.out]; exact .mk' hfm hsm
  clear hfm hsm HXm
  by_cases s0 : 2147483647 < nx
  · go_enter Try.func7, Try.ntmps7
    go_wp2_with fail
    go_ret
    exact ⟨rfl, .refl _ _⟩
  · skip
    by_cases s1 : 2147483647 < nm
    · go_enter Try.func7, Try.ntmps7
      go_wp2_with fail
      go_ret
      exact ⟨rfl, .refl _ _⟩
    · skip
      by_cases t0 : 300 < nx
      · go_enter Try.func7, Try.ntmps7
        have u := Upd.refl (fun _ => False) w
        go_wp2_with fail
        with_reducible refine (long_yes t0 hx).mono ?_
        rintro e v1 ⟨rfl, hu1⟩
        replace hx := hx.keep hu1
        replace hm := hm.keep hu1
        replace u := u.trans hu1
        clear hu1
        go_wp2_with fail
        go_ret
        exact ⟨rfl, u⟩
      · skip
        by_cases t1 : 300 < nm
        · go_enter Try.func7, Try.ntmps7
          have u := Upd.refl (fun _ => False) w
          go_wp2_with fail
          with_reducible refine (long_no t0 hx).mono ?_
          rintro e v1 ⟨rfl, hu1⟩
          replace hx := hx.keep hu1
          replace hm := hm.keep hu1
          replace u := u.trans hu1
          clear hu1
          go_wp2_with fail
          with_reducible refine (long_yes t1 hm).mono ?_
          rintro e v2 ⟨rfl, hu2⟩
          replace hx := hx.keep hu2
          replace hm := hm.keep hu2
          replace u := u.trans hu2
          clear hu2
          go_wp2_with fail
          go_ret
          exact ⟨rfl, u⟩
        · skip
          by_cases t2 : ¬ 1 < Xm
          · go_enter Try.func7, Try.ntmps7
            have u := Upd.refl (fun _ => False) w
            go_wp2_with fail
            with_reducible refine (long_no t0 hx).mono ?_
            rintro e v1 ⟨rfl, hu1⟩
            replace hx := hx.keep hu1
            replace hm := hm.keep hu1
            replace u := u.trans hu1
            clear hu1
            go_wp2_with fail
            with_reducible refine (long_no t1 hm).mono ?_
            rintro e v2 ⟨rfl, hu2⟩
            replace hx := hx.keep hu2
            replace hm := hm.keep hu2
            replace u := u.trans hu2
            clear hu2
            go_wp2_with fail
            with_reducible refine (sModulusSize_no (by omega) hm t2).mono ?_
            rintro e v3 ⟨rfl, hu3⟩
            replace hx := hx.keep hu3
            replace hm := hm.keep hu3
            replace u := u.trans hu3
            clear hu3
            go_wp2_with fail
            go_ret
            exact ⟨rfl, u⟩
          · skip
            obtain ⟨S, HS⟩ : ∃ S, Hid (S = nb Xm) := ⟨_, rfl⟩
            have hSb : S ≤ 300 := by rw [HS.out]; exact Nat.le_trans hm.nb (by omega)
            have Rx : RM Xm Xx (Xx : Int) := .base _ _
            have Rnil : RM Xm 0 0 := .zero _
            have Rone : RM Xm 1 1 := .one _
            obtain ⟨Vp, HVp⟩ : ∃ V, Hid (V = Xx % Xm) := ⟨_, rfl⟩
            have lp : Vp < Xm := by rw [HVp.out]; exact Nat.mod_lt _ (by omega)
            have Rp := RM.of_mod HVp.out Rx
            obtain ⟨Vq, HVq⟩ : ∃ V, Hid (V = Vp % Xm) := ⟨_, rfl⟩
            have lq : Vq < Xm := by rw [HVq.out]; exact Nat.mod_lt _ (by omega)
            have Rq := RM.of_mod HVq.out Rp
            have Hpq : Hid (Vq = Vp) := by show _ = _; rw [HVq.out]; exact Nat.mod_eq_of_lt lp
            clear Rq Rp Rone Rnil Rx
            go_enter Try.func7, Try.ntmps7
            have u := Upd.refl (fun _ => False) w
            go_wp2_with fail
            with_reducible refine (long_no t0 hx).mono ?_
            rintro e v1 ⟨rfl, hu1⟩
            replace hx := hx.keep hu1
            replace hm := hm.keep hu1
            replace u := u.trans hu1
            clear hu1
            go_wp2_with fail
            with_reducible refine (long_no t1 hm).mono ?_
            rintro e v2 ⟨rfl, hu2⟩
            replace hx := hx.keep hu2
            replace hm := hm.keep hu2
            replace u := u.trans hu2
            clear hu2
            go_wp2_with fail
            with_reducible refine (sModulusSize_yes (by omega) hm (by omega)).mono ?_
            rintro e v3 ⟨rfl, hu3⟩
            replace hx := hx.keep hu3
            replace hm := hm.keep hu3
            replace u := u.trans hu3
            clear hu3
            have kp := iMod_bs (by omega) (by omega) hx hm
            rw [optN_yes (show 1 < Xm by omega), ← HS.out, ← HVp.out] at kp
            replace kp := Lib.hid kp
            go_wp2_with fail
            with_reducible refine (kp.out).mono ?_
            rintro e v4 ⟨adp, cdp, rfl, hp, hu4⟩
            replace hx := hx.keep hu4
            replace hm := hm.keep hu4
            replace u := u.trans hu4
            clear hu4
            have kq := iMod_bs (by omega) (by omega) hp hm
            rw [optN_yes (show 1 < Xm by omega), ← HS.out, ← HVq.out] at kq
            replace kq := Lib.hid kq
            go_wp2_with fail
            with_reducible refine (kq.out).mono ?_
            rintro e v5 ⟨adq, cdq, rfl, hq, hu5⟩
            replace hx := hx.keep hu5
            replace hm := hm.keep hu5
            replace hp := hp.keep hu5
            replace u := u.trans hu5
            clear hu5
            have kc := iSetBytes_bs (fun _ => by have := HS.out; omega) (by omega) hp hm
            rw [optN_yes (show 1 < Xm ∧ Vp < Xm from ⟨by omega, by omega⟩), ← HS.out] at kc
            replace kc := Lib.hid kc
            go_wp2_with fail
            with_reducible refine (kc.out).mono ?_
            rintro e v6 ⟨adc, cdc, rfl, hc, hu6⟩
            replace hx := hx.keep hu6
            replace hm := hm.keep hu6
            replace hp := hp.keep hu6
            replace hq := hq.keep hu6
            replace u := u.trans hu6
            clear hu6
            go_wp2_with fail
            with_reducible refine (same_eq2 (by omega) hp hq Hpq.out.symm).mono ?_
            rintro e v7 ⟨rfl, hu7⟩
            replace hx := hx.keep hu7
            replace hm := hm.keep hu7
            replace hp := hp.keep hu7
            replace hq := hq.keep hu7
            replace hc := hc.keep hu7
            replace u := u.trans hu7
            clear hu7
            go_wp2_with fail
            with_reducible refine (same_eq (by omega) hp hc).mono ?_
            rintro e v8 ⟨rfl, hu8⟩
            replace hx := hx.keep hu8
            replace hm := hm.keep hu8
            replace hp := hp.keep hu8
            replace hq := hq.keep hu8
            replace hc := hc.keep hu8
            replace u := u.trans hu8
            clear hu8
            go_wp2_with fail
            go_ret
            exact ⟨rfl, u⟩

set_option maxRecDepth 100000 in
set_option maxHeartbeats 4000000 in
theorem law_FnExpSum (ax : Option Addr) (nx cx : Nat) (fx : Nat → Nat) (a : Int) (b : Int) (am : Option Addr) (nm cm : Nat) (fm : Nat → Nat) (w : World) (hfx : ∀ i, i < nx → fx i < 256) (hsx : Sl .u8 w ax nx cx fx) (bnda : -9223372036854775808 ≤ a ∧ a ≤ 9223372036854775807) (bndb : -9223372036854775808 ≤ b ∧ b ≤ 9223372036854775807) (hfm : ∀ i, i < nm → fm i < 256) (hsm : Sl .u8 w am nm cm fm) :
    Calls Try.prog 16 #[.slice ax nx cx, .int .i64 a, .int .i64 b, .slice am nm cm] w (Holds1 w) := by
  obtain ⟨Xx, HXx⟩ : ∃ X, Hid (X = be fx nx) := ⟨_, rfl⟩
  have hx : Bs w ax nx cx Xx := by rw [HXx.out]; exact .mk' hfx hsx
  clear hfx hsx HXx
  obtain ⟨Xm, HXm⟩ : ∃ X, Hid (X = be fm nm) := ⟨_, rfl⟩
  have hm : Bs w am nm cm Xm := by rw [HXm.out]; exact .mk' hfm hsm
  clear hfm hsm HXm
  by_cases s0 : 2147483647 < nx
  · go_enter Try.func16, Try.ntmps16
    go_wp2_with fail
    go_ret
    exact ⟨rfl, .refl _ _⟩
  · skip
    by_cases s1 : 2147483647 < nm
    · go_enter Try.func16, Try.ntmps16
      go_wp2_with fail
      go_ret
      exact ⟨rfl, .refl _ _⟩
    · skip
      by_cases t0 : ¬ (nm ≤ 300 ∧ nx ≤ 300 ∧ nx ≤ nb Xm ∧ 1 < Xm ∧ Xx < Xm)
      · go_enter Try.func16, Try.ntmps16
        have u := Upd.refl (fun _ => False) w
        go_wp2_with fail
        with_reducible refine (in_no t0 hx hm).mono ?_
        rintro e v1 ⟨rfl, hu1⟩
        replace hx := hx.keep hu1
        replace hm := hm.keep hu1
        replace u := u.trans hu1
        clear hu1
        go_wp2_with fail
        go_ret
        exact ⟨rfl, u⟩
      · skip
        by_cases t1 : ¬ Xm % 2 = 1
        · go_enter Try.func16, Try.ntmps16
          have u := Upd.refl (fun _ => False) w
          go_wp2_with fail
          with_reducible refine (in_yes t0 hx hm).mono ?_
          rintro e v1 ⟨rfl, hu1⟩
          replace hx := hx.keep hu1
          replace hm := hm.keep hu1
          replace u := u.trans hu1
          clear hu1
          go_wp2_with fail
          with_reducible refine (odd_no (by omega) hm t1).mono ?_
          rintro e v2 ⟨rfl, hu2⟩
          replace hx := hx.keep hu2
          replace hm := hm.keep hu2
          replace u := u.trans hu2
          clear hu2
          go_wp2_with fail
          go_ret
          exact ⟨rfl, u⟩
        · skip
          by_cases t2 : a < 1
          · go_enter Try.func16, Try.ntmps16
            have u := Upd.refl (fun _ => False) w
            go_wp2_with fail
            with_reducible refine (in_yes t0 hx hm).mono ?_
            rintro e v1 ⟨rfl, hu1⟩
            replace hx := hx.keep hu1
            replace hm := hm.keep hu1
            replace u := u.trans hu1
            clear hu1
            go_wp2_with fail
            with_reducible refine (odd_yes (by omega) hm t1).mono ?_
            rintro e v2 ⟨rfl, hu2⟩
            replace hx := hx.keep hu2
            replace hm := hm.keep hu2
            replace u := u.trans hu2
            clear hu2
            go_wp2_with fail
            go_ret
            exact ⟨rfl, u⟩
          · skip
            by_cases t3 : b < 1
            · go_enter Try.func16, Try.ntmps16
              have u := Upd.refl (fun _ => False) w
              go_wp2_with fail
              with_reducible refine (in_yes t0 hx hm).mono ?_
              rintro e v1 ⟨rfl, hu1⟩
              replace hx := hx.keep hu1
              replace hm := hm.keep hu1
              replace u := u.trans hu1
              clear hu1
              go_wp2_with fail
              with_reducible refine (odd_yes (by omega) hm t1).mono ?_
              rintro e v2 ⟨rfl, hu2⟩
              replace hx := hx.keep hu2
              replace hm := hm.keep hu2
              replace u := u.trans hu2
              clear hu2
              go_wp2_with fail
              go_ret
              exact ⟨rfl, u⟩
            · skip
              by_cases t4 : 1000000000 < a
              · go_enter Try.func16, Try.ntmps16
                have u := Upd.refl (fun _ => False) w
                go_wp2_with fail
                with_reducible refine (in_yes t0 hx hm).mono ?_
                rintro e v1 ⟨rfl, hu1⟩
                replace hx := hx.keep hu1
                replace hm := hm.keep hu1
                replace u := u.trans hu1
                clear hu1
                go_wp2_with fail
                with_reducible refine (odd_yes (by omega) hm t1).mono ?_
                rintro e v2 ⟨rfl, hu2⟩
                replace hx := hx.keep hu2
                replace hm := hm.keep hu2
                replace u := u.trans hu2
                clear hu2
                go_wp2_with fail
                go_ret
                exact ⟨rfl, u⟩
              · skip
                by_cases t5 : 1000000000 < b
                · go_enter Try.func16, Try.ntmps16
                  have u := Upd.refl (fun _ => False) w
                  go_wp2_with fail
                  with_reducible refine (in_yes t0 hx hm).mono ?_
                  rintro e v1 ⟨rfl, hu1⟩
                  replace hx := hx.keep hu1
                  replace hm := hm.keep hu1
                  replace u := u.trans hu1
                  clear hu1
                  go_wp2_with fail
                  with_reducible refine (odd_yes (by omega) hm t1).mono ?_
                  rintro e v2 ⟨rfl, hu2⟩
                  replace hx := hx.keep hu2
                  replace hm := hm.keep hu2
                  replace u := u.trans hu2
                  clear hu2
                  go_wp2_with fail
                  go_ret
                  exact ⟨rfl, u⟩
                · skip
                  obtain ⟨S, HS⟩ : ∃ S, Hid (S = nb Xm) := ⟨_, rfl⟩
                  have hSb : S ≤ 300 := by rw [HS.out]; exact Nat.le_trans hm.nb (by omega)
                  have Rx : RM Xm Xx (Xx : Int) := .base _ _
                  have Rnil : RM Xm 0 0 := .zero _
                  have Rone : RM Xm 1 1 := .one _
                  obtain ⟨A, rfl⟩ : ∃ A : Nat, a = (A : Int) := ⟨a.toNat, by omega⟩
                  obtain ⟨B, rfl⟩ : ∃ B : Nat, b = (B : Int) := ⟨b.toNat, by omega⟩
                  obtain ⟨Vp, HVp⟩ : ∃ V, Hid (V = Xx ^ A % Xm) := ⟨_, rfl⟩
                  have lp : Vp < Xm := by rw [HVp.out]; exact Nat.mod_lt _ (by omega)
                  have Rp := RM.powm HVp.out Rx
                  obtain ⟨Vq, HVq⟩ : ∃ V, Hid (V = Xx ^ B % Xm) := ⟨_, rfl⟩
                  have lq : Vq < Xm := by rw [HVq.out]; exact Nat.mod_lt _ (by omega)
                  have Rq := RM.powm HVq.out Rx
                  obtain ⟨Vr, HVr⟩ : ∃ V, Hid (V = (Vp * Vq) % Xm) := ⟨_, rfl⟩
                  have lr : Vr < Xm := by rw [HVr.out]; exact Nat.mod_lt _ (by omega)
                  have Rr := RM.mulm HVr.out Rp Rq
                  obtain ⟨Vs, HVs⟩ : ∃ V, Hid (V = Xx ^ (A + B) % Xm) := ⟨_, rfl⟩
                  have ls : Vs < Xm := by rw [HVs.out]; exact Nat.mod_lt _ (by omega)
                  have Rs := RM.powm HVs.out Rx
                  have E1 : Hid (Vr = Vs) := by
                    show _ = _
                    exact RM.done lr ls Rr Rs (by rw [Int.pow_add])
                  clear Rs Rr Rq Rp Rone Rnil Rx
                  go_enter Try.func16, Try.ntmps16
                  have u := Upd.refl (fun _ => False) w
                  go_wp2_with fail
                  with_reducible refine (in_yes t0 hx hm).mono ?_
                  rintro e v1 ⟨rfl, hu1⟩
                  replace hx := hx.keep hu1
                  replace hm := hm.keep hu1
                  replace u := u.trans hu1
                  clear hu1
                  go_wp2_with fail
                  with_reducible refine (odd_yes (by omega) hm t1).mono ?_
                  rintro e v2 ⟨rfl, hu2⟩
                  replace hx := hx.keep hu2
                  replace hm := hm.keep hu2
                  replace u := u.trans hu2
                  clear hu2
                  have kp := iExpShort_z (z := (A : Int)) rfl (fun _ => by have := HS.out; omega) (by omega) (by omega) (by omega) hx hm
                  rw [optN_yes (show 1 < Xm ∧ Xx < Xm ∧ Xm % 2 = 1 from ⟨by omega, by omega, by omega⟩), ← HS.out, ← HVp.out] at kp
                  replace kp := Lib.hid kp
                  go_wp2_with fail
                  with_reducible refine (kp.out).mono ?_
                  rintro e v3 ⟨adp, cdp, rfl, hp, hu3⟩
                  replace hx := hx.keep hu3
                  replace hm := hm.keep hu3
                  replace u := u.trans hu3
                  clear hu3
                  have kq := iExpShort_z (z := (B : Int)) rfl (fun _ => by have := HS.out; omega) (by omega) (by omega) (by omega) hx hm
                  rw [optN_yes (show 1 < Xm ∧ Xx < Xm ∧ Xm % 2 = 1 from ⟨by omega, by omega, by omega⟩), ← HS.out, ← HVq.out] at kq
                  replace kq := Lib.hid kq
                  go_wp2_with fail
                  with_reducible refine (kq.out).mono ?_
                  rintro e v4 ⟨adq, cdq, rfl, hq, hu4⟩
                  replace hx := hx.keep hu4
                  replace hm := hm.keep hu4
                  replace hp := hp.keep hu4
                  replace u := u.trans hu4
                  clear hu4
                  have kr := iMul_bs (fun _ => by have := HS.out; omega) (fun _ => by have := HS.out; omega) (by omega) hp hq hm
                  rw [optN_yes (show 1 < Xm ∧ Vp < Xm ∧ Vq < Xm from ⟨by omega, by omega, by omega⟩), ← HS.out, ← HVr.out] at kr
                  replace kr := Lib.hid kr
                  go_wp2_with fail
                  with_reducible refine (kr.out).mono ?_
                  rintro e v5 ⟨adr, cdr, rfl, hr, hu5⟩
                  replace hx := hx.keep hu5
                  replace hm := hm.keep hu5
                  replace hp := hp.keep hu5
                  replace hq := hq.keep hu5
                  replace u := u.trans hu5
                  clear hu5
                  have ks := iExpShort_z (z := (A : Int) + (B : Int)) (E := A + B) (by omega) (fun _ => by have := HS.out; omega) (by omega) (by omega) (by omega) hx hm
                  rw [optN_yes (show 1 < Xm ∧ Xx < Xm ∧ Xm % 2 = 1 from ⟨by omega, by omega, by omega⟩), ← HS.out, ← HVs.out] at ks
                  replace ks := Lib.hid ks
                  go_wp2_with fail
                  with_reducible refine (ks.out).mono ?_
                  rintro e v6 ⟨ads, cds, rfl, hs, hu6⟩
                  replace hx := hx.keep hu6
                  replace hm := hm.keep hu6
                  replace hp := hp.keep hu6
                  replace hq := hq.keep hu6
                  replace hr := hr.keep hu6
                  replace u := u.trans hu6
                  clear hu6
                  go_wp2_with fail
                  with_reducible refine (same_eq2 (by omega) hr hs E1.out).mono ?_
                  rintro e v7 ⟨rfl, hu7⟩
                  replace hx := hx.keep hu7
                  replace hm := hm.keep hu7
                  replace hp := hp.keep hu7
                  replace hq := hq.keep hu7
                  replace hr := hr.keep hu7
                  replace hs := hs.keep hu7
                  replace u := u.trans hu7
                  clear hu7
                  go_wp2_with fail
                  go_ret
                  exact ⟨rfl, u⟩

set_option maxRecDepth 100000 in
set_option maxHeartbeats 4000000 in
theorem law_FnExpProduct (ax : Option Addr) (nx cx : Nat) (fx : Nat → Nat) (a : Int) (b : Int) (am : Option Addr) (nm cm : Nat) (fm : Nat → Nat) (w : World) (hfx : ∀ i, i < nx → fx i < 256) (hsx : Sl .u8 w ax nx cx fx) (bnda : -9223372036854775808 ≤ a ∧ a ≤ 9223372036854775807) (bndb : -9223372036854775808 ≤ b ∧ b ≤ 9223372036854775807) (hfm : ∀ i, i < nm → fm i < 256) (hsm : Sl .u8 w am nm cm fm) :
    Calls Try.prog 4 #[.slice ax nx cx, .int .i64 a, .int .i64 b, .slice am nm cm] w (Holds1 w) := by
  obtain ⟨Xx, HXx⟩ : ∃ X, Hid (X = be fx nx) := ⟨_, rfl⟩
  have hx : Bs w ax nx cx Xx := by rw [HXx.out]; exact .mk' hfx hsx
  clear hfx hsx HXx
  obtain ⟨Xm, HXm⟩ : ∃ X, Hid (X = be fm nm) := ⟨_, rfl⟩
  have hm : Bs w am nm cm Xm := by rw [HXm.out]; exact .mk' hfm hsm
  clear hfm hsm HXm
  by_cases s0 : 2147483647 < nx
  · go_enter Try.func4, Try.ntmps4
    go_wp2_with fail
    go_ret
    exact ⟨rfl, .refl _ _⟩
  · skip
    by_cases s1 : 2147483647 < nm
    · go_enter Try.func4, Try.ntmps4
      go_wp2_with fail
      go_ret
      exact ⟨rfl, .refl _ _⟩
    · skip
      by_cases t0 : ¬ (nm ≤ 300 ∧ nx ≤ 300 ∧ nx ≤ nb Xm ∧ 1 < Xm ∧ Xx < Xm)
      · go_enter Try.func4, Try.ntmps4
        have u := Upd.refl (fun _ => False) w
        go_wp2_with fail
        with_reducible refine (in_no t0 hx hm).mono ?_
        rintro e v1 ⟨rfl, hu1⟩
        replace hx := hx.keep hu1
        replace hm := hm.keep hu1
        replace u := u.trans hu1
        clear hu1
        go_wp2_with fail
        go_ret
        exact ⟨rfl, u⟩
      · skip
        by_cases t1 : ¬ Xm % 2 = 1
        · go_enter Try.func4, Try.ntmps4
          have u := Upd.refl (fun _ => False) w
          go_wp2_with fail
          with_reducible refine (in_yes t0 hx hm).mono ?_
          rintro e v1 ⟨rfl, hu1⟩
          replace hx := hx.keep hu1
          replace hm := hm.keep hu1
          replace u := u.trans hu1
          clear hu1
          go_wp2_with fail
          with_reducible refine (odd_no (by omega) hm t1).mono ?_
          rintro e v2 ⟨rfl, hu2⟩
          replace hx := hx.keep hu2
          replace hm := hm.keep hu2
          replace u := u.trans hu2
          clear hu2
          go_wp2_with fail
          go_ret
          exact ⟨rfl, u⟩
        · skip
          by_cases t2 : a < 1
          · go_enter Try.func4, Try.ntmps4
            have u := Upd.refl (fun _ => False) w
            go_wp2_with fail
            with_reducible refine (in_yes t0 hx hm).mono ?_
            rintro e v1 ⟨rfl, hu1⟩
            replace hx := hx.keep hu1
            replace hm := hm.keep hu1
            replace u := u.trans hu1
            clear hu1
            go_wp2_with fail
            with_reducible refine (odd_yes (by omega) hm t1).mono ?_
            rintro e v2 ⟨rfl, hu2⟩
            replace hx := hx.keep hu2
            replace hm := hm.keep hu2
            replace u := u.trans hu2
            clear hu2
            go_wp2_with fail
            go_ret
            exact ⟨rfl, u⟩
          · skip
            by_cases t3 : b < 1
            · go_enter Try.func4, Try.ntmps4
              have u := Upd.refl (fun _ => False) w
              go_wp2_with fail
              with_reducible refine (in_yes t0 hx hm).mono ?_
              rintro e v1 ⟨rfl, hu1⟩
              replace hx := hx.keep hu1
              replace hm := hm.keep hu1
              replace u := u.trans hu1
              clear hu1
              go_wp2_with fail
              with_reducible refine (odd_yes (by omega) hm t1).mono ?_
              rintro e v2 ⟨rfl, hu2⟩
              replace hx := hx.keep hu2
              replace hm := hm.keep hu2
              replace u := u.trans hu2
              clear hu2
              go_wp2_with fail
              go_ret
              exact ⟨rfl, u⟩
            · skip
              by_cases t4 : 1000000000 < a
              · go_enter Try.func4, Try.ntmps4
                have u := Upd.refl (fun _ => False) w
                go_wp2_with fail
                with_reducible refine (in_yes t0 hx hm).mono ?_
                rintro e v1 ⟨rfl, hu1⟩
                replace hx := hx.keep hu1
                replace hm := hm.keep hu1
                replace u := u.trans hu1
                clear hu1
                go_wp2_with fail
                with_reducible refine (odd_yes (by omega) hm t1).mono ?_
                rintro e v2 ⟨rfl, hu2⟩
                replace hx := hx.keep hu2
                replace hm := hm.keep hu2
                replace u := u.trans hu2
                clear hu2
                go_wp2_with fail
                go_ret
                exact ⟨rfl, u⟩
              · skip
                by_cases t5 : 1000000000 < b
                · go_enter Try.func4, Try.ntmps4
                  have u := Upd.refl (fun _ => False) w
                  go_wp2_with fail
                  with_reducible refine (in_yes t0 hx hm).mono ?_
                  rintro e v1 ⟨rfl, hu1⟩
                  replace hx := hx.keep hu1
                  replace hm := hm.keep hu1
                  replace u := u.trans hu1
                  clear hu1
                  go_wp2_with fail
                  with_reducible refine (odd_yes (by omega) hm t1).mono ?_
                  rintro e v2 ⟨rfl, hu2⟩
                  replace hx := hx.keep hu2
                  replace hm := hm.keep hu2
                  replace u := u.trans hu2
                  clear hu2
                  go_wp2_with fail
                  go_ret
                  exact ⟨rfl, u⟩
                · skip
                  obtain ⟨S, HS⟩ : ∃ S, Hid (S = nb Xm) := ⟨_, rfl⟩
                  have hSb : S ≤ 300 := by rw [HS.out]; exact Nat.le_trans hm.nb (by omega)
                  have Rx : RM Xm Xx (Xx : Int) := .base _ _
                  have Rnil : RM Xm 0 0 := .zero _
                  have Rone : RM Xm 1 1 := .one _
                  obtain ⟨A, rfl⟩ : ∃ A : Nat, a = (A : Int) := ⟨a.toNat, by omega⟩
                  obtain ⟨B, rfl⟩ : ∃ B : Nat, b = (B : Int) := ⟨b.toNat, by omega⟩
                  have hab : A * B ≤ 1000000000 * 1000000000 := Nat.mul_le_mul (by omega) (by omega)
                  obtain ⟨C, HC⟩ : ∃ C, Hid (C = A * B) := ⟨_, rfl⟩
                  have hC1 : 1 ≤ C := by rw [HC.out]; exact Nat.mul_pos (by omega) (by omega)
                  have hC2 : C ≤ 1000000000000000000 := by rw [HC.out]; exact hab
                  have HCz : Hid ((A : Int) * (B : Int) = (C : Int)) := by show _ = _; rw [HC.out]; simp
                  clear hab
                  obtain ⟨Vp, HVp⟩ : ∃ V, Hid (V = Xx ^ A % Xm) := ⟨_, rfl⟩
                  have lp : Vp < Xm := by rw [HVp.out]; exact Nat.mod_lt _ (by omega)
                  have Rp := RM.powm HVp.out Rx
                  obtain ⟨Vq, HVq⟩ : ∃ V, Hid (V = Vp ^ B % Xm) := ⟨_, rfl⟩
                  have lq : Vq < Xm := by rw [HVq.out]; exact Nat.mod_lt _ (by omega)
                  have Rq := RM.powm HVq.out Rp
                  obtain ⟨Vs, HVs⟩ : ∃ V, Hid (V = Xx ^ C % Xm) := ⟨_, rfl⟩
                  have ls : Vs < Xm := by rw [HVs.out]; exact Nat.mod_lt _ (by omega)
                  have Rs := RM.powm HVs.out Rx
                  have E1 : Hid (Vq = Vs) := by
                    show _ = _
                    exact RM.done lq ls Rq Rs (by rw [HC.out, ipow_mul])
                  clear Rs Rq Rp Rone Rnil Rx
                  go_enter Try.func4, Try.ntmps4
                  have u := Upd.refl (fun _ => False) w
                  go_wp2_with fail
                  with_reducible refine (in_yes t0 hx hm).mono ?_
                  rintro e v1 ⟨rfl, hu1⟩
                  replace hx := hx.keep hu1
                  replace hm := hm.keep hu1
                  replace u := u.trans hu1
                  clear hu1
                  go_wp2_with fail
                  with_reducible refine (odd_yes (by omega) hm t1).mono ?_
                  rintro e v2 ⟨rfl, hu2⟩
                  replace hx := hx.keep hu2
                  replace hm := hm.keep hu2
                  replace u := u.trans hu2
                  clear hu2
                  have kp := iExpShort_z (z := (A : Int)) rfl (fun _ => by have := HS.out; omega) (by omega) (by omega) (by omega) hx hm
                  rw [optN_yes (show 1 < Xm ∧ Xx < Xm ∧ Xm % 2 = 1 from ⟨by omega, by omega, by omega⟩), ← HS.out, ← HVp.out] at kp
                  replace kp := Lib.hid kp
                  go_wp2_with fail
                  with_reducible refine (kp.out).mono ?_
                  rintro e v3 ⟨adp, cdp, rfl, hp, hu3⟩
                  replace hx := hx.keep hu3
                  replace hm := hm.keep hu3
                  replace u := u.trans hu3
                  clear hu3
                  have kq := iExpShort_z (z := (B : Int)) rfl (fun _ => by have := HS.out; omega) (by omega) (by omega) (by omega) hp hm
                  rw [optN_yes (show 1 < Xm ∧ Vp < Xm ∧ Xm % 2 = 1 from ⟨by omega, by omega, by omega⟩), ← HS.out, ← HVq.out] at kq
                  replace kq := Lib.hid kq
                  go_wp2_with fail
                  with_reducible refine (kq.out).mono ?_
                  rintro e v4 ⟨adq, cdq, rfl, hq, hu4⟩
                  replace hx := hx.keep hu4
                  replace hm := hm.keep hu4
                  replace hp := hp.keep hu4
                  replace u := u.trans hu4
                  clear hu4
                  have hCz := HCz.out
                  have hCw : IntKind.i64.wrap ((A : Int) * (B : Int)) = (C : Int) := by rw [hCz]; exact IntWalk.i64_in _ (by omega)
                  go_wp2_with fail
                  clear hCz hCw
                  have ks := iExpShort_z (z := (C : Int)) rfl (fun _ => by have := HS.out; omega) (by omega) (by omega) (by omega) hx hm
                  rw [optN_yes (show 1 < Xm ∧ Xx < Xm ∧ Xm % 2 = 1 from ⟨by omega, by omega, by omega⟩), ← HS.out, ← HVs.out] at ks
                  replace ks := Lib.hid ks
                  go_wp2_with fail
                  with_reducible refine (ks.out).mono ?_
                  rintro e v5 ⟨ads, cds, rfl, hs, hu5⟩
                  replace hx := hx.keep hu5
                  replace hm := hm.keep hu5
                  replace hp := hp.keep hu5
                  replace hq := hq.keep hu5
                  replace u := u.trans hu5
                  clear hu5
                  go_wp2_with fail
                  with_reducible refine (same_eq2 (by omega) hq hs E1.out).mono ?_
                  rintro e v6 ⟨rfl, hu6⟩
                  replace hx := hx.keep hu6
                  replace hm := hm.keep hu6
                  replace hp := hp.keep hu6
                  replace hq := hq.keep hu6
                  replace hs := hs.keep hu6
                  replace u := u.trans hu6
                  clear hu6
                  go_wp2_with fail
                  go_ret
                  exact ⟨rfl, u⟩

set_option maxRecDepth 100000 in
set_option maxHeartbeats 4000000 in
theorem law_FnExpBase (ax : Option Addr) (nx cx : Nat) (fx : Nat → Nat) (ay : Option Addr) (ny cy : Nat) (fy : Nat → Nat) (ae : Option Addr) (ne ce : Nat) (fe : Nat → Nat) (am : Option Addr) (nm cm : Nat) (fm : Nat → Nat) (w : World) (hfx : ∀ i, i < nx → fx i < 256) (hsx : Sl .u8 w ax nx cx fx) (hfy : ∀ i, i < ny → fy i < 256) (hsy : Sl .u8 w ay ny cy fy) (hfe : ∀ i, i < ne → fe i < 256) (hse : Sl .u8 w ae ne ce fe) (hfm : ∀ i, i < nm → fm i < 256) (hsm : Sl .u8 w am nm cm fm) :
    Calls Try.prog 15 #[.slice ax nx cx, .slice ay ny cy, .slice ae ne ce, .slice am nm cm] w (Holds1 w) := by
  obtain ⟨Xx, HXx⟩ : ∃ X, Hid (X = be fx nx) := ⟨_, rfl⟩
  have hx : Bs w ax nx cx Xx := by rw [HXx.out]; exact .mk' hfx hsx
  clear hfx hsx HXx
  obtain ⟨Xy, HXy⟩ : ∃ X, Hid (X = be fy ny) := ⟨_, rfl⟩
  have hy : Bs w ay ny cy Xy := by rw [HXy.out]; exact .mk' hfy hsy
  clear hfy hsy HXy
  obtain ⟨Xe, HXe⟩ : ∃ X, Hid (X = be fe ne) := ⟨_, rfl⟩
  have he : Bs w ae ne ce Xe := by rw [HXe.out]; exact .mk' hfe hse
  clear hfe hse HXe
  obtain ⟨Xm, HXm⟩ : ∃ X, Hid (X = be fm nm) := ⟨_, rfl⟩
  have hm : Bs w am nm cm Xm := by rw [HXm.out]; exact .mk' hfm hsm
  clear hfm hsm HXm
  by_cases s0 : 2147483647 < nx
  · go_enter Try.func15, Try.ntmps15
    go_wp2_with fail
    go_ret
    exact ⟨rfl, .refl _ _⟩
  · skip
    by_cases s1 : 2147483647 < ny
    · go_enter Try.func15, Try.ntmps15
      go_wp2_with fail
      go_ret
      exact ⟨rfl, .refl _ _⟩
    · skip
      by_cases s2 : 2147483647 < ne
      · go_enter Try.func15, Try.ntmps15
        go_wp2_with fail
        go_ret
        exact ⟨rfl, .refl _ _⟩
      · skip
        by_cases s3 : 2147483647 < nm
        · go_enter Try.func15, Try.ntmps15
          go_wp2_with fail
          go_ret
          exact ⟨rfl, .refl _ _⟩
        · skip
          by_cases t0 : ¬ (nm ≤ 300 ∧ nx ≤ 300 ∧ nx ≤ nb Xm ∧ 1 < Xm ∧ Xx < Xm)
          · go_enter Try.func15, Try.ntmps15
            have u := Upd.refl (fun _ => False) w
            go_wp2_with fail
            with_reducible refine (in_no t0 hx hm).mono ?_
            rintro e v1 ⟨rfl, hu1⟩
            replace hx := hx.keep hu1
            replace hy := hy.keep hu1
            replace he := he.keep hu1
            replace hm := hm.keep hu1
            replace u := u.trans hu1
            clear hu1
            go_wp2_with fail
            go_ret
            exact ⟨rfl, u⟩
          · skip
            by_cases t1 : ¬ (nm ≤ 300 ∧ ny ≤ 300 ∧ ny ≤ nb Xm ∧ 1 < Xm ∧ Xy < Xm)
            · go_enter Try.func15, Try.ntmps15
              have u := Upd.refl (fun _ => False) w
              go_wp2_with fail
              with_reducible refine (in_yes t0 hx hm).mono ?_
              rintro e v1 ⟨rfl, hu1⟩
              replace hx := hx.keep hu1
              replace hy := hy.keep hu1
              replace he := he.keep hu1
              replace hm := hm.keep hu1
              replace u := u.trans hu1
              clear hu1
              go_wp2_with fail
              with_reducible refine (in_no t1 hy hm).mono ?_
              rintro e v2 ⟨rfl, hu2⟩
              replace hx := hx.keep hu2
              replace hy := hy.keep hu2
              replace he := he.keep hu2
              replace hm := hm.keep hu2
              replace u := u.trans hu2
              clear hu2
              go_wp2_with fail
              go_ret
              exact ⟨rfl, u⟩
            · skip
              by_cases t2 : ¬ Xm % 2 = 1
              · go_enter Try.func15, Try.ntmps15
                have u := Upd.refl (fun _ => False) w
                go_wp2_with fail
                with_reducible refine (in_yes t0 hx hm).mono ?_
                rintro e v1 ⟨rfl, hu1⟩
                replace hx := hx.keep hu1
                replace hy := hy.keep hu1
                replace he := he.keep hu1
                replace hm := hm.keep hu1
                replace u := u.trans hu1
                clear hu1
                go_wp2_with fail
                with_reducible refine (in_yes t1 hy hm).mono ?_
                rintro e v2 ⟨rfl, hu2⟩
                replace hx := hx.keep hu2
                replace hy := hy.keep hu2
                replace he := he.keep hu2
                replace hm := hm.keep hu2
                replace u := u.trans hu2
                clear hu2
                go_wp2_with fail
                with_reducible refine (odd_no (by omega) hm t2).mono ?_
                rintro e v3 ⟨rfl, hu3⟩
                replace hx := hx.keep hu3
                replace hy := hy.keep hu3
                replace he := he.keep hu3
                replace hm := hm.keep hu3
                replace u := u.trans hu3
                clear hu3
                go_wp2_with fail
                go_ret
                exact ⟨rfl, u⟩
              · skip
                by_cases t3 : 40 < ne
                · go_enter Try.func15, Try.ntmps15
                  have u := Upd.refl (fun _ => False) w
                  go_wp2_with fail
                  with_reducible refine (in_yes t0 hx hm).mono ?_
                  rintro e v1 ⟨rfl, hu1⟩
                  replace hx := hx.keep hu1
                  replace hy := hy.keep hu1
                  replace he := he.keep hu1
                  replace hm := hm.keep hu1
                  replace u := u.trans hu1
                  clear hu1
                  go_wp2_with fail
                  with_reducible refine (in_yes t1 hy hm).mono ?_
                  rintro e v2 ⟨rfl, hu2⟩
                  replace hx := hx.keep hu2
                  replace hy := hy.keep hu2
                  replace he := he.keep hu2
                  replace hm := hm.keep hu2
                  replace u := u.trans hu2
                  clear hu2
                  go_wp2_with fail
                  with_reducible refine (odd_yes (by omega) hm t2).mono ?_
                  rintro e v3 ⟨rfl, hu3⟩
                  replace hx := hx.keep hu3
                  replace hy := hy.keep hu3
                  replace he := he.keep hu3
                  replace hm := hm.keep hu3
                  replace u := u.trans hu3
                  clear hu3
                  go_wp2_with fail
                  go_ret
                  exact ⟨rfl, u⟩
                · skip
                  obtain ⟨S, HS⟩ : ∃ S, Hid (S = nb Xm) := ⟨_, rfl⟩
                  have hSb : S ≤ 300 := by rw [HS.out]; exact Nat.le_trans hm.nb (by omega)
                  have Rx : RM Xm Xx (Xx : Int) := .base _ _
                  have Ry : RM Xm Xy (Xy : Int) := .base _ _
                  have Re : RM Xm Xe (Xe : Int) := .base _ _
                  have Rnil : RM Xm 0 0 := .zero _
                  have Rone : RM Xm 1 1 := .one _
                  obtain ⟨Vp, HVp⟩ : ∃ V, Hid (V = (Xx * Xy) % Xm) := ⟨_, rfl⟩
                  have lp : Vp < Xm := by rw [HVp.out]; exact Nat.mod_lt _ (by omega)
                  have Rp := RM.mulm HVp.out Rx Ry
                  obtain ⟨Vq, HVq⟩ : ∃ V, Hid (V = Vp ^ Xe % Xm) := ⟨_, rfl⟩
                  have lq : Vq < Xm := by rw [HVq.out]; exact Nat.mod_lt _ (by omega)
                  have Rq := RM.powm HVq.out Rp
                  obtain ⟨Vr, HVr⟩ : ∃ V, Hid (V = Xx ^ Xe % Xm) := ⟨_, rfl⟩
                  have lr : Vr < Xm := by rw [HVr.out]; exact Nat.mod_lt _ (by omega)
                  have Rr := RM.powm HVr.out Rx
                  obtain ⟨Vs, HVs⟩ : ∃ V, Hid (V = Xy ^ Xe % Xm) := ⟨_, rfl⟩
                  have ls : Vs < Xm := by rw [HVs.out]; exact Nat.mod_lt _ (by omega)
                  have Rs := RM.powm HVs.out Ry
                  obtain ⟨Vt, HVt⟩ : ∃ V, Hid (V = (Vr * Vs) % Xm) := ⟨_, rfl⟩
                  have lt : Vt < Xm := by rw [HVt.out]; exact Nat.mod_lt _ (by omega)
                  have Rt := RM.mulm HVt.out Rr Rs
                  have E1 : Hid (Vq = Vt) := by
                    show _ = _
                    exact RM.done lq lt Rq Rt (imul_pow _ _ _)
                  clear Rt Rs Rr Rq Rp Rone Rnil Re Ry Rx
                  go_enter Try.func15, Try.ntmps15
                  have u := Upd.refl (fun _ => False) w
                  go_wp2_with fail
                  with_reducible refine (in_yes t0 hx hm).mono ?_
                  rintro e v1 ⟨rfl, hu1⟩
                  replace hx := hx.keep hu1
                  replace hy := hy.keep hu1
                  replace he := he.keep hu1
                  replace hm := hm.keep hu1
                  replace u := u.trans hu1
                  clear hu1
                  go_wp2_with fail
                  with_reducible refine (in_yes t1 hy hm).mono ?_
                  rintro e v2 ⟨rfl, hu2⟩
                  replace hx := hx.keep hu2
                  replace hy := hy.keep hu2
                  replace he := he.keep hu2
                  replace hm := hm.keep hu2
                  replace u := u.trans hu2
                  clear hu2
                  go_wp2_with fail
                  with_reducible refine (odd_yes (by omega) hm t2).mono ?_
                  rintro e v3 ⟨rfl, hu3⟩
                  replace hx := hx.keep hu3
                  replace hy := hy.keep hu3
                  replace he := he.keep hu3
                  replace hm := hm.keep hu3
                  replace u := u.trans hu3
                  clear hu3
                  have kp := iMul_bs (fun _ => by have := HS.out; omega) (fun _ => by have := HS.out; omega) (by omega) hx hy hm
                  rw [optN_yes (show 1 < Xm ∧ Xx < Xm ∧ Xy < Xm from ⟨by omega, by omega, by omega⟩), ← HS.out, ← HVp.out] at kp
                  replace kp := Lib.hid kp
                  go_wp2_with fail
                  with_reducible refine (kp.out).mono ?_
                  rintro e v4 ⟨adp, cdp, rfl, hp, hu4⟩
                  replace hx := hx.keep hu4
                  replace hy := hy.keep hu4
                  replace he := he.keep hu4
                  replace hm := hm.keep hu4
                  replace u := u.trans hu4
                  clear hu4
                  have kq := iExp_bs (fun _ => by have := HS.out; omega) (by omega) (by omega) hp he hm
                  rw [optN_yes (show 1 < Xm ∧ Vp < Xm ∧ Xm % 2 = 1 from ⟨by omega, by omega, by omega⟩), ← HS.out, ← HVq.out] at kq
                  replace kq := Lib.hid kq
                  go_wp2_with fail
                  with_reducible refine (kq.out).mono ?_
                  rintro e v5 ⟨adq, cdq, rfl, hq, hu5⟩
                  replace hx := hx.keep hu5
                  replace hy := hy.keep hu5
                  replace he := he.keep hu5
                  replace hm := hm.keep hu5
                  replace hp := hp.keep hu5
                  replace u := u.trans hu5
                  clear hu5
                  have kr := iExp_bs (fun _ => by have := HS.out; omega) (by omega) (by omega) hx he hm
                  rw [optN_yes (show 1 < Xm ∧ Xx < Xm ∧ Xm % 2 = 1 from ⟨by omega, by omega, by omega⟩), ← HS.out, ← HVr.out] at kr
                  replace kr := Lib.hid kr
                  go_wp2_with fail
                  with_reducible refine (kr.out).mono ?_
                  rintro e v6 ⟨adr, cdr, rfl, hr, hu6⟩
                  replace hx := hx.keep hu6
                  replace hy := hy.keep hu6
                  replace he := he.keep hu6
                  replace hm := hm.keep hu6
                  replace hp := hp.keep hu6
                  replace hq := hq.keep hu6
                  replace u := u.trans hu6
                  clear hu6
                  have ks := iExp_bs (fun _ => by have := HS.out; omega) (by omega) (by omega) hy he hm
                  rw [optN_yes (show 1 < Xm ∧ Xy < Xm ∧ Xm % 2 = 1 from ⟨by omega, by omega, by omega⟩), ← HS.out, ← HVs.out] at ks
                  replace ks := Lib.hid ks
                  go_wp2_with fail
                  with_reducible refine (ks.out).mono ?_
                  rintro e v7 ⟨ads, cds, rfl, hs, hu7⟩
                  replace hx := hx.keep hu7
                  replace hy := hy.keep hu7
                  replace he := he.keep hu7
                  replace hm := hm.keep hu7
                  replace hp := hp.keep hu7
                  replace hq := hq.keep hu7
                  replace hr := hr.keep hu7
                  replace u := u.trans hu7
                  clear hu7
                  have kt := iMul_bs (fun _ => by have := HS.out; omega) (fun _ => by have := HS.out; omega) (by omega) hr hs hm
                  rw [optN_yes (show 1 < Xm ∧ Vr < Xm ∧ Vs < Xm from ⟨by omega, by omega, by omega⟩), ← HS.out, ← HVt.out] at kt
                  replace kt := Lib.hid kt
                  go_wp2_with fail
                  with_reducible refine (kt.out).mono ?_
                  rintro e v8 ⟨adt, cdt, rfl, ht, hu8⟩
                  replace hx := hx.keep hu8
                  replace hy := hy.keep hu8
                  replace he := he.keep hu8
                  replace hm := hm.keep hu8
                  replace hp := hp.keep hu8
                  replace hq := hq.keep hu8
                  replace hr := hr.keep hu8
                  replace hs := hs.keep hu8
                  replace u := u.trans hu8
                  clear hu8
                  go_wp2_with fail
                  with_reducible refine (same_eq2 (by omega) hq ht E1.out).mono ?_
                  rintro e v9 ⟨rfl, hu9⟩
                  replace hx := hx.keep hu9
                  replace hy := hy.keep hu9
                  replace he := he.keep hu9
                  replace hm := hm.keep hu9
                  replace hp := hp.keep hu9
                  replace hq := hq.keep hu9
                  replace hr := hr.keep hu9
                  replace hs := hs.keep hu9
                  replace ht := ht.keep hu9
                  replace u := u.trans hu9
                  clear hu9
                  go_wp2_with fail
                  go_ret
                  exact ⟨rfl, u⟩

end Go.Proofs.Ytpojonfopoobpaa
