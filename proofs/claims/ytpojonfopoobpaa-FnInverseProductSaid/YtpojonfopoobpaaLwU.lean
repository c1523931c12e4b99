/-
  Laws of inverses, of what may be beyond the modulus, of products and divisors.
-/
import Derived.Test.YtpojonfopoobpaaLwH
namespace Go.Proofs.Ytpojonfopoobpaa
open Go.RowKit

set_option maxRecDepth 100000 in
set_option maxHeartbeats 4000000 in
theorem law_FnInverseProduct (ax : Option Addr) (nx cx : Nat) (fx : Nat → Nat) (ay : Option Addr) (ny cy : Nat) (fy : Nat → Nat) (am : Option Addr) (nm cm : Nat) (fm : Nat → Nat) (w : World) (hfx : ∀ i, i < nx → fx i < 256) (hsx : Sl .u8 w ax nx cx fx) (hfy : ∀ i, i < ny → fy i < 256) (hsy : Sl .u8 w ay ny cy fy) (hfm : ∀ i, i < nm → fm i < 256) (hsm : Sl .u8 w am nm cm fm) :
    Calls Try.prog 21 #[.slice ax nx cx, .slice ay ny cy, .slice am nm cm] w (Holds1 w) := by
  obtain ⟨Xx, HXx⟩ : ∃ X, Hid (X = be fx nx) := ⟨_, rfl⟩
  have hx : Bs w ax nx cx Xx := by rw [HXx.out]; exact .mk' hfx hsx
  clear hfx hsx HXx
  obtain ⟨Xy, HXy⟩ : ∃ X, Hid (X = be fy ny) := ⟨_, rfl⟩
  have hy : Bs w ay ny cy Xy := by rw [HXy.out]; exact .mk' hfy hsy
  clear hfy hsy HXy
  obtain ⟨Xm, HXm⟩ : ∃ X, Hid (X = be fm nm) := ⟨_, rfl⟩
  have hm : Bs w am nm cm Xm := by rw [HXm.out]; exact .mk' hfm hsm
  clear hfm hsm HXm
  by_cases s0 : 2147483647 < nx
  · go_enter Try.func21, Try.ntmps21
    go_wp2_with fail
    go_ret
    exact ⟨rfl, .refl _ _⟩
  · skip
    by_cases s1 : 2147483647 < ny
    · go_enter Try.func21, Try.ntmps21
      go_wp2_with fail
      go_ret
      exact ⟨rfl, .refl _ _⟩
    · skip
      by_cases s2 : 2147483647 < nm
      · go_enter Try.func21, Try.ntmps21
        go_wp2_with fail
        go_ret
        exact ⟨rfl, .refl _ _⟩
      · skip
        by_cases t0 : ¬ (nm ≤ 300 ∧ nx ≤ 300 ∧ nx ≤ nb Xm ∧ 1 < Xm ∧ Xx < Xm)
        · go_enter Try.func21, Try.ntmps21
          have u := Upd.refl (fun _ => False) w
          go_wp2_with fail
          with_reducible refine (in_no t0 hx hm).mono ?_
          rintro e v1 ⟨rfl, hu1⟩
          replace hx := hx.keep hu1
          replace hy := hy.keep hu1
          replace hm := hm.keep hu1
          replace u := u.trans hu1
          clear hu1
          go_wp2_with fail
          go_ret
          exact ⟨rfl, u⟩
        · skip
          by_cases t1 : ¬ (nm ≤ 300 ∧ ny ≤ 300 ∧ ny ≤ nb Xm ∧ 1 < Xm ∧ Xy < Xm)
          · go_enter Try.func21, Try.ntmps21
            have u := Upd.refl (fun _ => False) w
            go_wp2_with fail
            with_reducible refine (in_yes t0 hx hm).mono ?_
            rintro e v1 ⟨rfl, hu1⟩
            replace hx := hx.keep hu1
            replace hy := hy.keep hu1
            replace hm := hm.keep hu1
            replace u := u.trans hu1
            clear hu1
            go_wp2_with fail
            with_reducible refine (in_no t1 hy hm).mono ?_
            rintro e v2 ⟨rfl, hu2⟩
            replace hx := hx.keep hu2
            replace hy := hy.keep hu2
            replace hm := hm.keep hu2
            replace u := u.trans hu2
            clear hu2
            go_wp2_with fail
            go_ret
            exact ⟨rfl, u⟩
          · skip
            by_cases hgx : Nat.gcd Xx Xm = 1
            · have HGx := Lib.hid hgx
              clear hgx
              by_cases hgy : Nat.gcd Xy Xm = 1
              · have HGy := Lib.hid hgy
                clear hgy
                obtain ⟨S, HS⟩ : ∃ S, Hid (S = nb Xm) := ⟨_, rfl⟩
                have hSb : S ≤ 300 := by rw [HS.out]; exact Nat.le_trans hm.nb (by omega)
                have Rx : RM Xm Xx (Xx : Int) := .base _ _
                have Ry : RM Xm Xy (Xy : Int) := .base _ _
                have Rnil : RM Xm 0 0 := .zero _
                have Rone : RM Xm 1 1 := .one _
                obtain ⟨Vp, HVp⟩ : ∃ V, Hid (V = (Xx * Xy) % Xm) := ⟨_, rfl⟩
                have lp : Vp < Xm := by rw [HVp.out]; exact Nat.mod_lt _ (by omega)
                have Rp := RM.mulm HVp.out Rx Ry
                have ix : Hid (IsInv Xx Xm (invN Xx Xm)) := invN_is (by omega) (by omega) HGx.out
                have iy : Hid (IsInv Xy Xm (invN Xy Xm)) := invN_is (by omega) (by omega) HGy.out
                have ip : Hid (IsInv Vp Xm (invN Xx Xm * invN Xy Xm % Xm)) := by show IsInv _ _ _; rw [HVp.out]; exact isInv_mul ix.out iy.out
                have HGp : Hid (Nat.gcd Vp Xm = 1) := ip.out.gcd (by omega)
                obtain ⟨Vq, HVq⟩ : ∃ V, Hid (V = invN Vp Xm) := ⟨_, rfl⟩
                have lq : Vq < Xm := by rw [HVq.out]; exact (invN_is (by omega) (by omega) HGp.out).lt
                obtain ⟨Vr, HVr⟩ : ∃ V, Hid (V = invN Xx Xm) := ⟨_, rfl⟩
                have lr : Vr < Xm := by rw [HVr.out]; exact (invN_is (by omega) (by omega) HGx.out).lt
                obtain ⟨Vs, HVs⟩ : ∃ V, Hid (V = invN Xy Xm) := ⟨_, rfl⟩
                have ls : Vs < Xm := by rw [HVs.out]; exact (invN_is (by omega) (by omega) HGy.out).lt
                have Rr := RM.base Xm Vr
                have Rs := RM.base Xm Vs
                obtain ⟨Vt, HVt⟩ : ∃ V, Hid (V = (Vr * Vs) % Xm) := ⟨_, rfl⟩
                have lt : Vt < Xm := by rw [HVt.out]; exact Nat.mod_lt _ (by omega)
                have Rt := RM.mulm HVt.out Rr Rs
                have E1 : Hid (Vq = Vt) := by
                  show _ = _
                  rw [HVq.out, HVt.out, HVr.out, HVs.out]
                  exact (ip.out.invN).symm
                clear Rt Rs Rr Rp Rone Rnil Ry Rx
                go_enter Try.func21, Try.ntmps21
                have u := Upd.refl (fun _ => False) w
                go_wp2_with fail
                with_reducible refine (in_yes t0 hx hm).mono ?_
                rintro e v1 ⟨rfl, hu1⟩
                replace hx := hx.keep hu1
                replace hy := hy.keep hu1
                replace hm := hm.keep hu1
                replace u := u.trans hu1
                clear hu1
                go_wp2_with fail
                with_reducible refine (in_yes t1 hy hm).mono ?_
                rintro e v2 ⟨rfl, hu2⟩
                replace hx := hx.keep hu2
                replace hy := hy.keep hu2
                replace hm := hm.keep hu2
                replace u := u.trans hu2
                clear hu2
                have ks := sInverse_bs (by omega) (by omega) hx hm
                rw [optN_yes (show 1 < Xm ∧ Xx < Xm ∧ Nat.gcd Xx Xm = 1 from ⟨by omega, by omega, HGx.out⟩)] at ks
                replace ks := Lib.hid ks
                go_wp2_with fail
                with_reducible refine (ks.out).mono ?_
                rintro e v3 ⟨_, _, rfl, _, hu3⟩
                replace hx := hx.keep hu3
                replace hy := hy.keep hu3
                replace hm := hm.keep hu3
                replace u := u.trans hu3
                clear hu3
                have ks := sInverse_bs (by omega) (by omega) hy hm
                rw [optN_yes (show 1 < Xm ∧ Xy < Xm ∧ Nat.gcd Xy Xm = 1 from ⟨by omega, by omega, HGy.out⟩)] at ks
                replace ks := Lib.hid ks
                go_wp2_with fail
                with_reducible refine (ks.out).mono ?_
                rintro e v4 ⟨_, _, rfl, _, hu4⟩
                replace hx := hx.keep hu4
                replace hy := hy.keep hu4
                replace hm := hm.keep hu4
                replace u := u.trans hu4
                clear hu4
                have kp := iMul_bs (fun _ => by have := HS.out; omega) (fun _ => by have := HS.out; omega) (by omega) hx hy hm
                rw [optN_yes (show 1 < Xm ∧ Xx < Xm ∧ Xy < Xm from ⟨by omega, by omega, by omega⟩), ← HS.out, ← HVp.out] at kp
                replace kp := Lib.hid kp
                go_wp2_with fail
                with_reducible refine (kp.out).mono ?_
                rintro e v5 ⟨adp, cdp, rfl, hp, hu5⟩
                replace hx := hx.keep hu5
                replace hy := hy.keep hu5
                replace hm := hm.keep hu5
                replace u := u.trans hu5
                clear hu5
                have kq := iInverse_bs (fun _ => by have := HS.out; omega) (by omega) hp hm
                rw [optN_yes (show 1 < Xm ∧ Vp < Xm ∧ Nat.gcd Vp Xm = 1 from ⟨by omega, by omega, HGp.out⟩), ← HS.out, ← HVq.out] at kq
                replace kq := Lib.hid kq
                go_wp2_with fail
                with_reducible refine (kq.out).mono ?_
                rintro e v6 ⟨adq, cdq, rfl, hq, hu6⟩
                replace hx := hx.keep hu6
                replace hy := hy.keep hu6
                replace hm := hm.keep hu6
                replace hp := hp.keep hu6
                replace u := u.trans hu6
                clear hu6
                have kr := iInverse_bs (fun _ => by have := HS.out; omega) (by omega) hx hm
                rw [optN_yes (show 1 < Xm ∧ Xx < Xm ∧ Nat.gcd Xx Xm = 1 from ⟨by omega, by omega, HGx.out⟩), ← HS.out, ← HVr.out] at kr
                replace kr := Lib.hid kr
                go_wp2_with fail
                with_reducible refine (kr.out).mono ?_
                rintro e v7 ⟨adr, cdr, rfl, hr, hu7⟩
                replace hx := hx.keep hu7
                replace hy := hy.keep hu7
                replace hm := hm.keep hu7
                replace hp := hp.keep hu7
                replace hq := hq.keep hu7
                replace u := u.trans hu7
                clear hu7
                have ks := iInverse_bs (fun _ => by have := HS.out; omega) (by omega) hy hm
                rw [optN_yes (show 1 < Xm ∧ Xy < Xm ∧ Nat.gcd Xy Xm = 1 from ⟨by omega, by omega, HGy.out⟩), ← HS.out, ← HVs.out] at ks
                replace ks := Lib.hid ks
                go_wp2_with fail
                with_reducible refine (ks.out).mono ?_
                rintro e v8 ⟨ads, cds, rfl, hs, hu8⟩
                replace hx := hx.keep hu8
                replace hy := hy.keep hu8
                replace hm := hm.keep hu8
                replace hp := hp.keep hu8
                replace hq := hq.keep hu8
                replace hr := hr.keep hu8
                replace u := u.trans hu8
                clear hu8
                have kt := iMul_bs (fun _ => by have := HS.out; omega) (fun _ => by have := HS.out; omega) (by omega) hr hs hm
                rw [optN_yes (show 1 < Xm ∧ Vr < Xm ∧ Vs < Xm from ⟨by omega, by omega, by omega⟩), ← HS.out, ← HVt.out] at kt
                replace kt := Lib.hid kt
                go_wp2_with fail
                with_reducible refine (kt.out).mono ?_
                rintro e v9 ⟨adt, cdt, rfl, ht, hu9⟩
                replace hx := hx.keep hu9
                replace hy := hy.keep hu9
                replace hm := hm.keep hu9
                replace hp := hp.keep hu9
                replace hq := hq.keep hu9
                replace hr := hr.keep hu9
                replace hs := hs.keep hu9
                replace u := u.trans hu9
                clear hu9
                go_wp2_with fail
                with_reducible refine (same_eq2 (by omega) hq ht E1.out).mono ?_
                rintro e v10 ⟨rfl, hu10⟩
                replace hx := hx.keep hu10
                replace hy := hy.keep hu10
                replace hm := hm.keep hu10
                replace hp := hp.keep hu10
                replace hq := hq.keep hu10
                replace hr := hr.keep hu10
                replace hs := hs.keep hu10
                replace ht := ht.keep hu10
                replace u := u.trans hu10
                clear hu10
                go_wp2_with fail
                go_ret
                exact ⟨rfl, u⟩
              · have HGy := Lib.hid hgy
                clear hgy
                obtain ⟨S, HS⟩ : ∃ S, Hid (S = nb Xm) := ⟨_, rfl⟩
                have hSb : S ≤ 300 := by rw [HS.out]; exact Nat.le_trans hm.nb (by omega)
                have Rx : RM Xm Xx (Xx : Int) := .base _ _
                have Ry : RM Xm Xy (Xy : Int) := .base _ _
                have Rnil : RM Xm 0 0 := .zero _
                have Rone : RM Xm 1 1 := .one _
                obtain ⟨Vp, HVp⟩ : ∃ V, Hid (V = (Xx * Xy) % Xm) := ⟨_, rfl⟩
                have lp : Vp < Xm := by rw [HVp.out]; exact Nat.mod_lt _ (by omega)
                have Rp := RM.mulm HVp.out Rx Ry
                have HGp : Hid (¬ Nat.gcd Vp Xm = 1) := fun h => by
                  rw [HVp.out] at h
                  exact HGy.out (gcd_of_mul (by omega) h).2
                clear Rp Rone Rnil Ry Rx
                go_enter Try.func21, Try.ntmps21
                have u := Upd.refl (fun _ => False) w
                go_wp2_with fail
                with_reducible refine (in_yes t0 hx hm).mono ?_
                rintro e v1 ⟨rfl, hu1⟩
                replace hx := hx.keep hu1
                replace hy := hy.keep hu1
                replace hm := hm.keep hu1
                replace u := u.trans hu1
                clear hu1
                go_wp2_with fail
                with_reducible refine (in_yes t1 hy hm).mono ?_
                rintro e v2 ⟨rfl, hu2⟩
                replace hx := hx.keep hu2
                replace hy := hy.keep hu2
                replace hm := hm.keep hu2
                replace u := u.trans hu2
                clear hu2
                have ks := sInverse_bs (by omega) (by omega) hx hm
                rw [optN_yes (show 1 < Xm ∧ Xx < Xm ∧ Nat.gcd Xx Xm = 1 from ⟨by omega, by omega, HGx.out⟩)] at ks
                replace ks := Lib.hid ks
                go_wp2_with fail
                with_reducible refine (ks.out).mono ?_
                rintro e v3 ⟨_, _, rfl, _, hu3⟩
                replace hx := hx.keep hu3
                replace hy := hy.keep hu3
                replace hm := hm.keep hu3
                replace u := u.trans hu3
                clear hu3
                have ks := sInverse_bs (by omega) (by omega) hy hm
                rw [optN_no (fun h => HGy.out h.2.2)] at ks
                replace ks := Lib.hid ks
                go_wp2_with fail
                with_reducible refine (ks.out).mono ?_
                rintro e v4 ⟨rfl, hu4⟩
                replace hx := hx.keep hu4
                replace hy := hy.keep hu4
                replace hm := hm.keep hu4
                replace u := u.trans hu4
                clear hu4
                have kp := iMul_bs (fun _ => by have := HS.out; omega) (fun _ => by have := HS.out; omega) (by omega) hx hy hm
                rw [optN_yes (show 1 < Xm ∧ Xx < Xm ∧ Xy < Xm from ⟨by omega, by omega, by omega⟩), ← HS.out, ← HVp.out] at kp
                replace kp := Lib.hid kp
                go_wp2_with fail
                with_reducible refine (kp.out).mono ?_
                rintro e v5 ⟨adp, cdp, rfl, hp, hu5⟩
                replace hx := hx.keep hu5
                replace hy := hy.keep hu5
                replace hm := hm.keep hu5
                replace u := u.trans hu5
                clear hu5
                have kq := iInverse_bs (fun _ => by have := HS.out; omega) (by omega) hp hm
                rw [optN_no (fun h => HGp.out h.2.2)] at kq
                replace kq := Lib.hid kq
                go_wp2_with fail
                with_reducible refine (kq.out).mono ?_
                rintro e v6 ⟨rfl, hu6⟩
                replace hx := hx.keep hu6
                replace hy := hy.keep hu6
                replace hm := hm.keep hu6
                replace hp := hp.keep hu6
                replace u := u.trans hu6
                clear hu6
                go_wp2_with fail
                go_ret
                exact ⟨rfl, u⟩
            · have HGx := Lib.hid hgx
              clear hgx
              by_cases hgy : Nat.gcd Xy Xm = 1
              · have HGy := Lib.hid hgy
                clear hgy
                obtain ⟨S, HS⟩ : ∃ S, Hid (S = nb Xm) := ⟨_, rfl⟩
                have hSb : S ≤ 300 := by rw [HS.out]; exact Nat.le_trans hm.nb (by omega)
                have Rx : RM Xm Xx (Xx : Int) := .base _ _
                have Ry : RM Xm Xy (Xy : Int) := .base _ _
                have Rnil : RM Xm 0 0 := .zero _
                have Rone : RM Xm 1 1 := .one _
                obtain ⟨Vp, HVp⟩ : ∃ V, Hid (V = (Xx * Xy) % Xm) := ⟨_, rfl⟩
                have lp : Vp < Xm := by rw [HVp.out]; exact Nat.mod_lt _ (by omega)
                have Rp := RM.mulm HVp.out Rx Ry
                have HGp : Hid (¬ Nat.gcd Vp Xm = 1) := fun h => by
                  rw [HVp.out] at h
                  exact HGx.out (gcd_of_mul (by omega) h).1
                clear Rp Rone Rnil Ry Rx
                go_enter Try.func21, Try.ntmps21
                have u := Upd.refl (fun _ => False) w
                go_wp2_with fail
                with_reducible refine (in_yes t0 hx hm).mono ?_
                rintro e v1 ⟨rfl, hu1⟩
                replace hx := hx.keep hu1
                replace hy := hy.keep hu1
                replace hm := hm.keep hu1
                replace u := u.trans hu1
                clear hu1
                go_wp2_with fail
                with_reducible refine (in_yes t1 hy hm).mono ?_
                rintro e v2 ⟨rfl, hu2⟩
                replace hx := hx.keep hu2
                replace hy := hy.keep hu2
                replace hm := hm.keep hu2
                replace u := u.trans hu2
                clear hu2
                have ks := sInverse_bs (by omega) (by omega) hx hm
                rw [optN_no (fun h => HGx.out h.2.2)] at ks
                replace ks := Lib.hid ks
                go_wp2_with fail
                with_reducible refine (ks.out).mono ?_
                rintro e v3 ⟨rfl, hu3⟩
                replace hx := hx.keep hu3
                replace hy := hy.keep hu3
                replace hm := hm.keep hu3
                replace u := u.trans hu3
                clear hu3
                have ks := sInverse_bs (by omega) (by omega) hy hm
                rw [optN_yes (show 1 < Xm ∧ Xy < Xm ∧ Nat.gcd Xy Xm = 1 from ⟨by omega, by omega, HGy.out⟩)] at ks
                replace ks := Lib.hid ks
                go_wp2_with fail
                with_reducible refine (ks.out).mono ?_
                rintro e v4 ⟨_, _, rfl, _, hu4⟩
                replace hx := hx.keep hu4
                replace hy := hy.keep hu4
                replace hm := hm.keep hu4
                replace u := u.trans hu4
                clear hu4
                have kp := iMul_bs (fun _ => by have := HS.out; omega) (fun _ => by have := HS.out; omega) (by omega) hx hy hm
                rw [optN_yes (show 1 < Xm ∧ Xx < Xm ∧ Xy < Xm from ⟨by omega, by omega, by omega⟩), ← HS.out, ← HVp.out] at kp
                replace kp := Lib.hid kp
                go_wp2_with fail
                with_reducible refine (kp.out).mono ?_
                rintro e v5 ⟨adp, cdp, rfl, hp, hu5⟩
                replace hx := hx.keep hu5
                replace hy := hy.keep hu5
                replace hm := hm.keep hu5
                replace u := u.trans hu5
                clear hu5
                have kq := iInverse_bs (fun _ => by have := HS.out; omega) (by omega) hp hm
                rw [optN_no (fun h => HGp.out h.2.2)] at kq
                replace kq := Lib.hid kq
                go_wp2_with fail
                with_reducible refine (kq.out).mono ?_
                rintro e v6 ⟨rfl, hu6⟩
                replace hx := hx.keep hu6
                replace hy := hy.keep hu6
                replace hm := hm.keep hu6
                replace hp := hp.keep hu6
                replace u := u.trans hu6
                clear hu6
                go_wp2_with fail
                go_ret
                exact ⟨rfl, u⟩
              · have HGy := Lib.hid hgy
                clear hgy
                obtain ⟨S, HS⟩ : ∃ S, Hid (S = nb Xm) := ⟨_, rfl⟩
                have hSb : S ≤ 300 := by rw [HS.out]; exact Nat.le_trans hm.nb (by omega)
                have Rx : RM Xm Xx (Xx : Int) := .base _ _
                have Ry : RM Xm Xy (Xy : Int) := .base _ _
                have Rnil : RM Xm 0 0 := .zero _
                have Rone : RM Xm 1 1 := .one _
                obtain ⟨Vp, HVp⟩ : ∃ V, Hid (V = (Xx * Xy) % Xm) := ⟨_, rfl⟩
                have lp : Vp < Xm := by rw [HVp.out]; exact Nat.mod_lt _ (by omega)
                have Rp := RM.mulm HVp.out Rx Ry
                have HGp : Hid (¬ Nat.gcd Vp Xm = 1) := fun h => by
                  rw [HVp.out] at h
                  exact HGx.out (gcd_of_mul (by omega) h).1
                clear Rp Rone Rnil Ry Rx
                go_enter Try.func21, Try.ntmps21
                have u := Upd.refl (fun _ => False) w
                go_wp2_with fail
                with_reducible refine (in_yes t0 hx hm).mono ?_
                rintro e v1 ⟨rfl, hu1⟩
                replace hx := hx.keep hu1
                replace hy := hy.keep hu1
                replace hm := hm.keep hu1
                replace u := u.trans hu1
                clear hu1
                go_wp2_with fail
                with_reducible refine (in_yes t1 hy hm).mono ?_
                rintro e v2 ⟨rfl, hu2⟩
                replace hx := hx.keep hu2
                replace hy := hy.keep hu2
                replace hm := hm.keep hu2
                replace u := u.trans hu2
                clear hu2
                have ks := sInverse_bs (by omega) (by omega) hx hm
                rw [optN_no (fun h => HGx.out h.2.2)] at ks
                replace ks := Lib.hid ks
                go_wp2_with fail
                with_reducible refine (ks.out).mono ?_
                rintro e v3 ⟨rfl, hu3⟩
                replace hx := hx.keep hu3
                replace hy := hy.keep hu3
                replace hm := hm.keep hu3
                replace u := u.trans hu3
                clear hu3
                have ks := sInverse_bs (by omega) (by omega) hy hm
                rw [optN_no (fun h => HGy.out h.2.2)] at ks
                replace ks := Lib.hid ks
                go_wp2_with fail
                with_reducible refine (ks.out).mono ?_
                rintro e v4 ⟨rfl, hu4⟩
                replace hx := hx.keep hu4
                replace hy := hy.keep hu4
                replace hm := hm.keep hu4
                replace u := u.trans hu4
                clear hu4
                have kp := iMul_bs (fun _ => by have := HS.out; omega) (fun _ => by have := HS.out; omega) (by omega) hx hy hm
                rw [optN_yes (show 1 < Xm ∧ Xx < Xm ∧ Xy < Xm from ⟨by omega, by omega, by omega⟩), ← HS.out, ← HVp.out] at kp
                replace kp := Lib.hid kp
                go_wp2_with fail
                with_reducible refine (kp.out).mono ?_
                rintro e v5 ⟨adp, cdp, rfl, hp, hu5⟩
                replace hx := hx.keep hu5
                replace hy := hy.keep hu5
                replace hm := hm.keep hu5
                replace u := u.trans hu5
                clear hu5
                have kq := iInverse_bs (fun _ => by have := HS.out; omega) (by omega) hp hm
                rw [optN_no (fun h => HGp.out h.2.2)] at kq
                replace kq := Lib.hid kq
                go_wp2_with fail
                with_reducible refine (kq.out).mono ?_
                rintro e v6 ⟨rfl, hu6⟩
                replace hx := hx.keep hu6
                replace hy := hy.keep hu6
                replace hm := hm.keep hu6
                replace hp := hp.keep hu6
                replace u := u.trans hu6
                clear hu6
                go_wp2_with fail
                go_ret
                exact ⟨rfl, u⟩

set_option maxRecDepth 100000 in
set_option maxHeartbeats 4000000 in
theorem law_FnInverseGCD (ax : Option Addr) (nx cx : Nat) (fx : Nat → Nat) (am : Option Addr) (nm cm : Nat) (fm : Nat → Nat) (w : World) (hfx : ∀ i, i < nx → fx i < 256) (hsx : Sl .u8 w ax nx cx fx) (hfm : ∀ i, i < nm → fm i < 256) (hsm : Sl .u8 w am nm cm fm) :
    Calls Try.prog 17 #[.slice ax nx cx, .slice am nm cm] w (Holds1 w) := by
  obtain ⟨Xx, HXx⟩ : ∃ X, Hid (X = be fx nx) := ⟨_, rfl⟩
  have hx : Bs w ax nx cx Xx := by rw [HXx.out]; exact .mk' hfx hsx
  clear hfx hsx HXx
  obtain ⟨Xm, HXm⟩ : ∃ X, Hid (X = be fm nm) := ⟨_, rfl⟩
  have hm : Bs w am nm cm Xm := by rw [HXm.out]; exact .mk' hfm hsm
  clear hfm hsm HXm
  by_cases s0 : 2147483647 < nx
  · go_enter Try.func17, Try.ntmps17
    go_wp2_with fail
    go_ret
    exact ⟨rfl, .refl _ _⟩
  · skip
    by_cases s1 : 2147483647 < nm
    · go_enter Try.func17, Try.ntmps17
      go_wp2_with fail
      go_ret
      exact ⟨rfl, .refl _ _⟩
    · skip
      by_cases t0 : ¬ (nm ≤ 300 ∧ nx ≤ 300 ∧ nx ≤ nb Xm ∧ 1 < Xm ∧ Xx < Xm)
      · go_enter Try.func17, Try.ntmps17
        have u := Upd.refl (fun _ => False) w
        go_wp2_with fail
        with_reducible refine (in_no t0 hx hm).mono ?_
        rintro e v1 ⟨rfl, hu1⟩
        replace hx := hx.keep hu1
        replace hm := hm.keep hu1
        replace u := u.trans hu1
        clear hu1
        go_wp2_with fail
        go_ret
        exact ⟨rfl, u⟩
      · skip
        by_cases t1 : Xx = 0
        · go_enter Try.func17, Try.ntmps17
          have u := Upd.refl (fun _ => False) w
          go_wp2_with fail
          with_reducible refine (in_yes t0 hx hm).mono ?_
          rintro e v1 ⟨rfl, hu1⟩
          replace hx := hx.keep hu1
          replace hm := hm.keep hu1
          replace u := u.trans hu1
          clear hu1
          go_wp2_with fail
          with_reducible refine (zero_yes (by omega) hx t1).mono ?_
          rintro e v2 ⟨rfl, hu2⟩
          replace hx := hx.keep hu2
          replace hm := hm.keep hu2
          replace u := u.trans hu2
          clear hu2
          go_wp2_with fail
          go_ret
          exact ⟨rfl, u⟩
        · skip
          obtain ⟨S, HS⟩ : ∃ S, Hid (S = nb Xm) := ⟨_, rfl⟩
          have hSb : S ≤ 300 := by rw [HS.out]; exact Nat.le_trans hm.nb (by omega)
          obtain ⟨G, HG⟩ : ∃ G, Hid (G = Nat.gcd Xx Xm) := ⟨_, rfl⟩
          obtain ⟨gS, HgS⟩ : ∃ S, Hid (S = nb G) := ⟨_, rfl⟩
          have hG1 : G ≤ Xx := by rw [HG.out]; exact Nat.gcd_le_left _ (by omega)
          have hgS : gS ≤ 300 := by rw [HgS.out]; exact Nat.le_trans (nb_mono hG1) (Nat.le_trans hx.nb (by omega))
          have HgO : Hid (Xx % 2 = 1 ∨ Xm % 2 = 1 → gcdO Xx Xm = some (gS, G)) := fun h => by rw [HgS.out, HG.out]; exact gcdO_some (by omega)
          by_cases om : Xm % 2 = 1
          · skip
            have kO := Lib.hid (HgO.out (.inr om))
            by_cases hg : G = 1
            · have HI : Hid (Nat.gcd Xx Xm = 1) := by show _ = _; rw [← HG.out, hg]
              have HgS1 : Hid (gS = 1) := by show _ = _; rw [HgS.out, hg]; rfl
              subst hg
              go_enter Try.func17, Try.ntmps17
              have u := Upd.refl (fun _ => False) w
              go_wp2_with fail
              with_reducible refine (in_yes t0 hx hm).mono ?_
              rintro e v1 ⟨rfl, hu1⟩
              replace hx := hx.keep hu1
              replace hm := hm.keep hu1
              replace u := u.trans hu1
              clear hu1
              go_wp2_with fail
              with_reducible refine (zero_no (by omega) hx t1).mono ?_
              rintro e v2 ⟨rfl, hu2⟩
              replace hx := hx.keep hu2
              replace hm := hm.keep hu2
              replace u := u.trans hu2
              clear hu2
              go_wp2_with fail
              with_reducible refine (odd_yes (by omega) hm (by omega)).mono ?_
              rintro e v3 ⟨rfl, hu3⟩
              replace hx := hx.keep hu3
              replace hm := hm.keep hu3
              replace u := u.trans hu3
              clear hu3
              have ks := iInverse_bs (fun _ => by have := HS.out; omega) (by omega) hx hm
              rw [optN_yes (show 1 < Xm ∧ Xx < Xm ∧ Nat.gcd Xx Xm = 1 from ⟨by omega, by omega, HI.out⟩)] at ks
              replace ks := Lib.hid ks
              go_wp2_with fail
              with_reducible refine (ks.out).mono ?_
              rintro e v4 ⟨_, _, rfl, _, hu4⟩
              replace hx := hx.keep hu4
              replace hm := hm.keep hu4
              replace u := u.trans hu4
              clear hu4
              have kg := iGCD_bs (by omega) (by omega) hx hm
              rw [kO.out, HgS1.out] at kg
              replace kg := Lib.hid kg
              go_wp2_with fail
              with_reducible refine (kg.out).mono ?_
              rintro e v5 ⟨adg, cdg, rfl, hg, hu5⟩
              replace hx := hx.keep hu5
              replace hm := hm.keep hu5
              replace u := u.trans hu5
              clear hu5
              obtain ⟨bg, og, rfl, hcg⟩ := hg.first
              go_wp2_with fail
              go_ret
              exact ⟨by first | rfl | (refine ret_bool ?_; simp; done) | (refine ret_bool ?_; simp; omega), u⟩
            · have HI : Hid (¬ Nat.gcd Xx Xm = 1) := fun h => hg (by rw [HG.out, h])
              have hG0 : 0 < G := by rw [HG.out]; exact Nat.gcd_pos_of_pos_left _ (by omega)
              by_cases hs : gS = 1
              · have hG256 : G < 256 := by have := lt_pow_nb G; rw [← HgS.out, hs] at this; exact this
                have hne : (((G : Nat) : Int) == 1) = false := by rw [beq_eq_false_iff_ne]; omega
                rw [hs] at kO
                clear hs hg
                go_enter Try.func17, Try.ntmps17
                have u := Upd.refl (fun _ => False) w
                go_wp2_with fail
                with_reducible refine (in_yes t0 hx hm).mono ?_
                rintro e v1 ⟨rfl, hu1⟩
                replace hx := hx.keep hu1
                replace hm := hm.keep hu1
                replace u := u.trans hu1
                clear hu1
                go_wp2_with fail
                with_reducible refine (zero_no (by omega) hx t1).mono ?_
                rintro e v2 ⟨rfl, hu2⟩
                replace hx := hx.keep hu2
                replace hm := hm.keep hu2
                replace u := u.trans hu2
                clear hu2
                go_wp2_with fail
                with_reducible refine (odd_yes (by omega) hm (by omega)).mono ?_
                rintro e v3 ⟨rfl, hu3⟩
                replace hx := hx.keep hu3
                replace hm := hm.keep hu3
                replace u := u.trans hu3
                clear hu3
                have ks := iInverse_bs (fun _ => by have := HS.out; omega) (by omega) hx hm
                rw [optN_no (fun h => HI.out h.2.2)] at ks
                replace ks := Lib.hid ks
                go_wp2_with fail
                with_reducible refine (ks.out).mono ?_
                rintro e v4 ⟨rfl, hu4⟩
                replace hx := hx.keep hu4
                replace hm := hm.keep hu4
                replace u := u.trans hu4
                clear hu4
                have kg := iGCD_bs (by omega) (by omega) hx hm
                rw [kO.out] at kg
                replace kg := Lib.hid kg
                go_wp2_with fail
                with_reducible refine (kg.out).mono ?_
                rintro e v5 ⟨adg, cdg, rfl, hg, hu5⟩
                replace hx := hx.keep hu5
                replace hm := hm.keep hu5
                replace u := u.trans hu5
                clear hu5
                obtain ⟨bg, og, rfl, hcg⟩ := hg.first
                go_wp2_with fail
                go_ret
                exact ⟨by first | rfl | (refine ret_bool ?_; simp; done) | (refine ret_bool ?_; simp; omega), u⟩
              · have hne : (((gS : Nat) : Int) == 1) = false := by rw [beq_eq_false_iff_ne]; omega
                clear hs hg
                go_enter Try.func17, Try.ntmps17
                have u := Upd.refl (fun _ => False) w
                go_wp2_with fail
                with_reducible refine (in_yes t0 hx hm).mono ?_
                rintro e v1 ⟨rfl, hu1⟩
                replace hx := hx.keep hu1
                replace hm := hm.keep hu1
                replace u := u.trans hu1
                clear hu1
                go_wp2_with fail
                with_reducible refine (zero_no (by omega) hx t1).mono ?_
                rintro e v2 ⟨rfl, hu2⟩
                replace hx := hx.keep hu2
                replace hm := hm.keep hu2
                replace u := u.trans hu2
                clear hu2
                go_wp2_with fail
                with_reducible refine (odd_yes (by omega) hm (by omega)).mono ?_
                rintro e v3 ⟨rfl, hu3⟩
                replace hx := hx.keep hu3
                replace hm := hm.keep hu3
                replace u := u.trans hu3
                clear hu3
                have ks := iInverse_bs (fun _ => by have := HS.out; omega) (by omega) hx hm
                rw [optN_no (fun h => HI.out h.2.2)] at ks
                replace ks := Lib.hid ks
                go_wp2_with fail
                with_reducible refine (ks.out).mono ?_
                rintro e v4 ⟨rfl, hu4⟩
                replace hx := hx.keep hu4
                replace hm := hm.keep hu4
                replace u := u.trans hu4
                clear hu4
                have kg := iGCD_bs (by omega) (by omega) hx hm
                rw [kO.out] at kg
                replace kg := Lib.hid kg
                go_wp2_with fail
                with_reducible refine (kg.out).mono ?_
                rintro e v5 ⟨adg, cdg, rfl, hg, hu5⟩
                replace hx := hx.keep hu5
                replace hm := hm.keep hu5
                replace u := u.trans hu5
                clear hu5
                go_wp2_with fail
                go_ret
                exact ⟨by first | rfl | (refine ret_bool ?_; simp; done) | (refine ret_bool ?_; simp; omega), u⟩
          · by_cases ox : Xx % 2 = 1
            · skip
              have kO := Lib.hid (HgO.out (.inl ox))
              by_cases hg : G = 1
              · have HI : Hid (Nat.gcd Xx Xm = 1) := by show _ = _; rw [← HG.out, hg]
                have HgS1 : Hid (gS = 1) := by show _ = _; rw [HgS.out, hg]; rfl
                subst hg
                go_enter Try.func17, Try.ntmps17
                have u := Upd.refl (fun _ => False) w
                go_wp2_with fail
                with_reducible refine (in_yes t0 hx hm).mono ?_
                rintro e v1 ⟨rfl, hu1⟩
                replace hx := hx.keep hu1
                replace hm := hm.keep hu1
                replace u := u.trans hu1
                clear hu1
                go_wp2_with fail
                with_reducible refine (zero_no (by omega) hx t1).mono ?_
                rintro e v2 ⟨rfl, hu2⟩
                replace hx := hx.keep hu2
                replace hm := hm.keep hu2
                replace u := u.trans hu2
                clear hu2
                go_wp2_with fail
                with_reducible refine (odd_no (by omega) hm om).mono ?_
                rintro e v3 ⟨rfl, hu3⟩
                replace hx := hx.keep hu3
                replace hm := hm.keep hu3
                replace u := u.trans hu3
                clear hu3
                go_wp2_with fail
                with_reducible refine (odd_yes (by omega) hx (by omega)).mono ?_
                rintro e v4 ⟨rfl, hu4⟩
                replace hx := hx.keep hu4
                replace hm := hm.keep hu4
                replace u := u.trans hu4
                clear hu4
                have ks := iInverse_bs (fun _ => by have := HS.out; omega) (by omega) hx hm
                rw [optN_yes (show 1 < Xm ∧ Xx < Xm ∧ Nat.gcd Xx Xm = 1 from ⟨by omega, by omega, HI.out⟩)] at ks
                replace ks := Lib.hid ks
                go_wp2_with fail
                with_reducible refine (ks.out).mono ?_
                rintro e v5 ⟨_, _, rfl, _, hu5⟩
                replace hx := hx.keep hu5
                replace hm := hm.keep hu5
                replace u := u.trans hu5
                clear hu5
                have kg := iGCD_bs (by omega) (by omega) hx hm
                rw [kO.out, HgS1.out] at kg
                replace kg := Lib.hid kg
                go_wp2_with fail
                with_reducible refine (kg.out).mono ?_
                rintro e v6 ⟨adg, cdg, rfl, hg, hu6⟩
                replace hx := hx.keep hu6
                replace hm := hm.keep hu6
                replace u := u.trans hu6
                clear hu6
                obtain ⟨bg, og, rfl, hcg⟩ := hg.first
                go_wp2_with fail
                go_ret
                exact ⟨by first | rfl | (refine ret_bool ?_; simp; done) | (refine ret_bool ?_; simp; omega), u⟩
              · have HI : Hid (¬ Nat.gcd Xx Xm = 1) := fun h => hg (by rw [HG.out, h])
                have hG0 : 0 < G := by rw [HG.out]; exact Nat.gcd_pos_of_pos_left _ (by omega)
                by_cases hs : gS = 1
                · have hG256 : G < 256 := by have := lt_pow_nb G; rw [← HgS.out, hs] at this; exact this
                  have hne : (((G : Nat) : Int) == 1) = false := by rw [beq_eq_false_iff_ne]; omega
                  rw [hs] at kO
                  clear hs hg
                  go_enter Try.func17, Try.ntmps17
                  have u := Upd.refl (fun _ => False) w
                  go_wp2_with fail
                  with_reducible refine (in_yes t0 hx hm).mono ?_
                  rintro e v1 ⟨rfl, hu1⟩
                  replace hx := hx.keep hu1
                  replace hm := hm.keep hu1
                  replace u := u.trans hu1
                  clear hu1
                  go_wp2_with fail
                  with_reducible refine (zero_no (by omega) hx t1).mono ?_
                  rintro e v2 ⟨rfl, hu2⟩
                  replace hx := hx.keep hu2
                  replace hm := hm.keep hu2
                  replace u := u.trans hu2
                  clear hu2
                  go_wp2_with fail
                  with_reducible refine (odd_no (by omega) hm om).mono ?_
                  rintro e v3 ⟨rfl, hu3⟩
                  replace hx := hx.keep hu3
                  replace hm := hm.keep hu3
                  replace u := u.trans hu3
                  clear hu3
                  go_wp2_with fail
                  with_reducible refine (odd_yes (by omega) hx (by omega)).mono ?_
                  rintro e v4 ⟨rfl, hu4⟩
                  replace hx := hx.keep hu4
                  replace hm := hm.keep hu4
                  replace u := u.trans hu4
                  clear hu4
                  have ks := iInverse_bs (fun _ => by have := HS.out; omega) (by omega) hx hm
                  rw [optN_no (fun h => HI.out h.2.2)] at ks
                  replace ks := Lib.hid ks
                  go_wp2_with fail
                  with_reducible refine (ks.out).mono ?_
                  rintro e v5 ⟨rfl, hu5⟩
                  replace hx := hx.keep hu5
                  replace hm := hm.keep hu5
                  replace u := u.trans hu5
                  clear hu5
                  have kg := iGCD_bs (by omega) (by omega) hx hm
                  rw [kO.out] at kg
                  replace kg := Lib.hid kg
                  go_wp2_with fail
                  with_reducible refine (kg.out).mono ?_
                  rintro e v6 ⟨adg, cdg, rfl, hg, hu6⟩
                  replace hx := hx.keep hu6
                  replace hm := hm.keep hu6
                  replace u := u.trans hu6
                  clear hu6
                  obtain ⟨bg, og, rfl, hcg⟩ := hg.first
                  go_wp2_with fail
                  go_ret
                  exact ⟨by first | rfl | (refine ret_bool ?_; simp; done) | (refine ret_bool ?_; simp; omega), u⟩
                · have hne : (((gS : Nat) : Int) == 1) = false := by rw [beq_eq_false_iff_ne]; omega
                  clear hs hg
                  go_enter Try.func17, Try.ntmps17
                  have u := Upd.refl (fun _ => False) w
                  go_wp2_with fail
                  with_reducible refine (in_yes t0 hx hm).mono ?_
                  rintro e v1 ⟨rfl, hu1⟩
                  replace hx := hx.keep hu1
                  replace hm := hm.keep hu1
                  replace u := u.trans hu1
                  clear hu1
                  go_wp2_with fail
                  with_reducible refine (zero_no (by omega) hx t1).mono ?_
                  rintro e v2 ⟨rfl, hu2⟩
                  replace hx := hx.keep hu2
                  replace hm := hm.keep hu2
                  replace u := u.trans hu2
                  clear hu2
                  go_wp2_with fail
                  with_reducible refine (odd_no (by omega) hm om).mono ?_
                  rintro e v3 ⟨rfl, hu3⟩
                  replace hx := hx.keep hu3
                  replace hm := hm.keep hu3
                  replace u := u.trans hu3
                  clear hu3
                  go_wp2_with fail
                  with_reducible refine (odd_yes (by omega) hx (by omega)).mono ?_
                  rintro e v4 ⟨rfl, hu4⟩
                  replace hx := hx.keep hu4
                  replace hm := hm.keep hu4
                  replace u := u.trans hu4
                  clear hu4
                  have ks := iInverse_bs (fun _ => by have := HS.out; omega) (by omega) hx hm
                  rw [optN_no (fun h => HI.out h.2.2)] at ks
                  replace ks := Lib.hid ks
                  go_wp2_with fail
                  with_reducible refine (ks.out).mono ?_
                  rintro e v5 ⟨rfl, hu5⟩
                  replace hx := hx.keep hu5
                  replace hm := hm.keep hu5
                  replace u := u.trans hu5
                  clear hu5
                  have kg := iGCD_bs (by omega) (by omega) hx hm
                  rw [kO.out] at kg
                  replace kg := Lib.hid kg
                  go_wp2_with fail
                  with_reducible refine (kg.out).mono ?_
                  rintro e v6 ⟨adg, cdg, rfl, hg, hu6⟩
                  replace hx := hx.keep hu6
                  replace hm := hm.keep hu6
                  replace u := u.trans hu6
                  clear hu6
                  go_wp2_with fail
                  go_ret
                  exact ⟨by first | rfl | (refine ret_bool ?_; simp; done) | (refine ret_bool ?_; simp; omega), u⟩
            · go_enter Try.func17, Try.ntmps17
              have u := Upd.refl (fun _ => False) w
              go_wp2_with fail
              with_reducible refine (in_yes t0 hx hm).mono ?_
              rintro e v1 ⟨rfl, hu1⟩
              replace hx := hx.keep hu1
              replace hm := hm.keep hu1
              replace u := u.trans hu1
              clear hu1
              go_wp2_with fail
              with_reducible refine (zero_no (by omega) hx t1).mono ?_
              rintro e v2 ⟨rfl, hu2⟩
              replace hx := hx.keep hu2
              replace hm := hm.keep hu2
              replace u := u.trans hu2
              clear hu2
              go_wp2_with fail
              with_reducible refine (odd_no (by omega) hm om).mono ?_
              rintro e v3 ⟨rfl, hu3⟩
              replace hx := hx.keep hu3
              replace hm := hm.keep hu3
              replace u := u.trans hu3
              clear hu3
              go_wp2_with fail
              with_reducible refine (odd_no (by omega) hx ox).mono ?_
              rintro e v4 ⟨rfl, hu4⟩
              replace hx := hx.keep hu4
              replace hm := hm.keep hu4
              replace u := u.trans hu4
              clear hu4
              go_wp2_with fail
              go_ret
              exact ⟨rfl, u⟩

set_option maxRecDepth 100000 in
set_option maxHeartbeats 4000000 in
theorem law_FnOverflowing (ax : Option Addr) (nx cx : Nat) (fx : Nat → Nat) (am : Option Addr) (nm cm : Nat) (fm : Nat → Nat) (w : World) (hfx : ∀ i, i < nx → fx i < 256) (hsx : Sl .u8 w ax nx cx fx) (hfm : ∀ i, i < nm → fm i < 256) (hsm : Sl .u8 w am nm cm fm) :
    Calls Try.prog 8 #[.slice ax nx cx, .slice am nm cm] w (Holds1 w) := by
  obtain ⟨Xx, HXx⟩ : ∃ X, Hid (X = be fx nx) := ⟨_, rfl⟩
  have hx : Bs w ax nx cx Xx := by rw [HXx.out]; exact .mk' hfx hsx
  clear hfx hsx HXx
  obtain ⟨Xm, HXm⟩ : ∃ X, Hid (X = be fm nm) := ⟨_, rfl⟩
  have hm : Bs w am nm cm Xm := by rw [HXm.out]; exact .mk' hfm hsm
  clear hfm hsm HXm
  by_cases s0 : 2147483647 < nx
  · go_enter Try.func8, Try.ntmps8
    go_wp2_with fail
    go_ret
    exact ⟨rfl, .refl _ _⟩
  · skip
    by_cases s1 : 2147483647 < nm
    · go_enter Try.func8, Try.ntmps8
      go_wp2_with fail
      go_ret
      exact ⟨rfl, .refl _ _⟩
    · skip
      by_cases t0 : 300 < nm ∨ 300 < nx ∨ (1 < Xm ∧ nb Xm < nx)
      · go_enter Try.func8, Try.ntmps8
        have u := Upd.refl (fun _ => False) w
        go_wp2_with fail
        with_reducible refine (beyond_yes t0 hx hm).mono ?_
        rintro e v1 ⟨rfl, hu1⟩
        replace hx := hx.keep hu1
        replace hm := hm.keep hu1
        replace u := u.trans hu1
        clear hu1
        go_wp2_with fail
        go_ret
        exact ⟨rfl, u⟩
      · skip
        by_cases h1 : 1 < Xm
        · have hnb := hm.nb
          obtain ⟨S, HS⟩ : ∃ S, Hid (S = nb Xm) := ⟨_, rfl⟩
          have hSb : S ≤ 300 := by rw [HS.out]; omega
          obtain ⟨V, HV⟩ : ∃ V, Hid (V = Xx % Xm) := ⟨_, rfl⟩
          obtain ⟨lx, Hlx⟩ : ∃ l, Hid (l = blen Xx) := ⟨_, rfl⟩
          obtain ⟨lm, Hlm⟩ : ∃ l, Hid (l = blen Xm) := ⟨_, rfl⟩
          have hlx := hx.blen
          have hlm := hm.blen
          rw [← Hlx.out] at hlx
          rw [← Hlm.out] at hlm
          by_cases h2 : Xx < Xm
          · have HB : Hid (1 < Xm ∧ Xx < Xm) := ⟨h1, h2⟩
            have HA : Hid (1 < Xm ∧ blen Xx ≤ blen Xm) := ⟨h1, blen_mono (Nat.le_of_lt h2)⟩
            have HE : Hid (Xx = V) := by show _ = _; rw [HV.out, Nat.mod_eq_of_lt h2]
            have hle : ((lx : Nat) : Int) ≤ ((lm : Nat) : Int) := by have := HA.out.2; rw [← Hlx.out, ← Hlm.out] at this; omega
            clear h2
            go_enter Try.func8, Try.ntmps8
            have u := Upd.refl (fun _ => False) w
            go_wp2_with fail
            with_reducible refine (beyond_no t0 hx hm).mono ?_
            rintro e v1 ⟨rfl, hu1⟩
            replace hx := hx.keep hu1
            replace hm := hm.keep hu1
            replace u := u.trans hu1
            clear hu1
            have ka := iSetOverflowing_bs (fun h => by omega) (by omega) hx hm
            rw [optN_yes HA.out, ← HS.out, ← HV.out] at ka
            replace ka := Lib.hid ka
            go_wp2_with fail
            with_reducible refine (ka.out).mono ?_
            rintro e v2 ⟨ada, cda, rfl, ha, hu2⟩
            replace hx := hx.keep hu2
            replace hm := hm.keep hu2
            replace u := u.trans hu2
            clear hu2
            have kb := iSetBytes_bs (fun h => by omega) (by omega) hx hm
            rw [optN_yes HB.out, ← HS.out] at kb
            replace kb := Lib.hid kb
            go_wp2_with fail
            with_reducible refine (kb.out).mono ?_
            rintro e v3 ⟨adb, cdb, rfl, hb, hu3⟩
            replace hx := hx.keep hu3
            replace hm := hm.keep hu3
            replace ha := ha.keep hu3
            replace u := u.trans hu3
            clear hu3
            have kc := iMod_bs (by omega) (by omega) hx hm
            rw [optN_yes h1, ← HS.out, ← HV.out] at kc
            replace kc := Lib.hid kc
            go_wp2_with fail
            with_reducible refine (kc.out).mono ?_
            rintro e v4 ⟨adc, cdc, rfl, hc, hu4⟩
            replace hx := hx.keep hu4
            replace hm := hm.keep hu4
            replace ha := ha.keep hu4
            replace hb := hb.keep hu4
            replace u := u.trans hu4
            clear hu4
            go_wp2_with fail
            with_reducible refine (sModulusSize_yes (by omega) hm h1).mono ?_
            rintro e v5 ⟨rfl, hu5⟩
            replace hx := hx.keep hu5
            replace hm := hm.keep hu5
            replace ha := ha.keep hu5
            replace hb := hb.keep hu5
            replace hc := hc.keep hu5
            replace u := u.trans hu5
            clear hu5
            go_wp2_with fail
            with_reducible refine (same_eq (by omega) ha hc).mono ?_
            rintro e v6 ⟨rfl, hu6⟩
            replace hx := hx.keep hu6
            replace hm := hm.keep hu6
            replace ha := ha.keep hu6
            replace hb := hb.keep hu6
            replace hc := hc.keep hu6
            replace u := u.trans hu6
            clear hu6
            go_wp2_with fail
            with_reducible refine (same_eq2 (by omega) hb ha HE.out).mono ?_
            rintro e v7 ⟨rfl, hu7⟩
            replace hx := hx.keep hu7
            replace hm := hm.keep hu7
            replace ha := ha.keep hu7
            replace hb := hb.keep hu7
            replace hc := hc.keep hu7
            replace u := u.trans hu7
            clear hu7
            have kl := iBitLen_bs (by omega) hx
            rw [← Hlx.out] at kl
            replace kl := Lib.hid kl
            go_wp2_with fail
            with_reducible refine (kl.out).mono ?_
            rintro e v8 ⟨rfl, hu8⟩
            replace hx := hx.keep hu8
            replace hm := hm.keep hu8
            replace ha := ha.keep hu8
            replace hb := hb.keep hu8
            replace hc := hc.keep hu8
            replace u := u.trans hu8
            clear hu8
            have kl := iBitLen_bs (by omega) hm
            rw [← Hlm.out] at kl
            replace kl := Lib.hid kl
            go_wp2_with fail
            with_reducible refine (kl.out).mono ?_
            rintro e v9 ⟨rfl, hu9⟩
            replace hx := hx.keep hu9
            replace hm := hm.keep hu9
            replace ha := ha.keep hu9
            replace hb := hb.keep hu9
            replace hc := hc.keep hu9
            replace u := u.trans hu9
            clear hu9
            go_wp2_with fail
            go_ret
            exact ⟨by first | rfl | (refine ret_bool ?_; simp; done) | (refine ret_bool ?_; simp; omega), u⟩
          · have HB : Hid (¬ (1 < Xm ∧ Xx < Xm)) := fun h => h2 h.2
            clear h2
            by_cases h3 : blen Xx ≤ blen Xm
            · have HA : Hid (1 < Xm ∧ blen Xx ≤ blen Xm) := ⟨h1, h3⟩
              have hle : ((lx : Nat) : Int) ≤ ((lm : Nat) : Int) := by have := HA.out.2; rw [← Hlx.out, ← Hlm.out] at this; omega
              clear h3
              go_enter Try.func8, Try.ntmps8
              have u := Upd.refl (fun _ => False) w
              go_wp2_with fail
              with_reducible refine (beyond_no t0 hx hm).mono ?_
              rintro e v1 ⟨rfl, hu1⟩
              replace hx := hx.keep hu1
              replace hm := hm.keep hu1
              replace u := u.trans hu1
              clear hu1
              have ka := iSetOverflowing_bs (fun h => by omega) (by omega) hx hm
              rw [optN_yes HA.out, ← HS.out, ← HV.out] at ka
              replace ka := Lib.hid ka
              go_wp2_with fail
              with_reducible refine (ka.out).mono ?_
              rintro e v2 ⟨ada, cda, rfl, ha, hu2⟩
              replace hx := hx.keep hu2
              replace hm := hm.keep hu2
              replace u := u.trans hu2
              clear hu2
              have kb := iSetBytes_bs (fun h => by omega) (by omega) hx hm
              rw [optN_no HB.out] at kb
              replace kb := Lib.hid kb
              go_wp2_with fail
              with_reducible refine (kb.out).mono ?_
              rintro e v3 ⟨rfl, hu3⟩
              replace hx := hx.keep hu3
              replace hm := hm.keep hu3
              replace ha := ha.keep hu3
              replace u := u.trans hu3
              clear hu3
              have kc := iMod_bs (by omega) (by omega) hx hm
              rw [optN_yes h1, ← HS.out, ← HV.out] at kc
              replace kc := Lib.hid kc
              go_wp2_with fail
              with_reducible refine (kc.out).mono ?_
              rintro e v4 ⟨adc, cdc, rfl, hc, hu4⟩
              replace hx := hx.keep hu4
              replace hm := hm.keep hu4
              replace ha := ha.keep hu4
              replace u := u.trans hu4
              clear hu4
              go_wp2_with fail
              with_reducible refine (sModulusSize_yes (by omega) hm h1).mono ?_
              rintro e v5 ⟨rfl, hu5⟩
              replace hx := hx.keep hu5
              replace hm := hm.keep hu5
              replace ha := ha.keep hu5
              replace hc := hc.keep hu5
              replace u := u.trans hu5
              clear hu5
              go_wp2_with fail
              with_reducible refine (same_eq (by omega) ha hc).mono ?_
              rintro e v6 ⟨rfl, hu6⟩
              replace hx := hx.keep hu6
              replace hm := hm.keep hu6
              replace ha := ha.keep hu6
              replace hc := hc.keep hu6
              replace u := u.trans hu6
              clear hu6
              have kl := iBitLen_bs (by omega) hx
              rw [← Hlx.out] at kl
              replace kl := Lib.hid kl
              go_wp2_with fail
              with_reducible refine (kl.out).mono ?_
              rintro e v7 ⟨rfl, hu7⟩
              replace hx := hx.keep hu7
              replace hm := hm.keep hu7
              replace ha := ha.keep hu7
              replace hc := hc.keep hu7
              replace u := u.trans hu7
              clear hu7
              have kl := iBitLen_bs (by omega) hm
              rw [← Hlm.out] at kl
              replace kl := Lib.hid kl
              go_wp2_with fail
              with_reducible refine (kl.out).mono ?_
              rintro e v8 ⟨rfl, hu8⟩
              replace hx := hx.keep hu8
              replace hm := hm.keep hu8
              replace ha := ha.keep hu8
              replace hc := hc.keep hu8
              replace u := u.trans hu8
              clear hu8
              go_wp2_with fail
              go_ret
              exact ⟨by first | rfl | (refine ret_bool ?_; simp; done) | (refine ret_bool ?_; simp; omega), u⟩
            · have HA : Hid (¬ (1 < Xm ∧ blen Xx ≤ blen Xm)) := fun h => h3 h.2
              have hle : ¬ ((lx : Nat) : Int) ≤ ((lm : Nat) : Int) := by rw [← Hlx.out, ← Hlm.out] at h3; omega
              clear h3
              go_enter Try.func8, Try.ntmps8
              have u := Upd.refl (fun _ => False) w
              go_wp2_with fail
              with_reducible refine (beyond_no t0 hx hm).mono ?_
              rintro e v1 ⟨rfl, hu1⟩
              replace hx := hx.keep hu1
              replace hm := hm.keep hu1
              replace u := u.trans hu1
              clear hu1
              have ka := iSetOverflowing_bs (fun h => by omega) (by omega) hx hm
              rw [optN_no HA.out] at ka
              replace ka := Lib.hid ka
              go_wp2_with fail
              with_reducible refine (ka.out).mono ?_
              rintro e v2 ⟨rfl, hu2⟩
              replace hx := hx.keep hu2
              replace hm := hm.keep hu2
              replace u := u.trans hu2
              clear hu2
              have kb := iSetBytes_bs (fun h => by omega) (by omega) hx hm
              rw [optN_no HB.out] at kb
              replace kb := Lib.hid kb
              go_wp2_with fail
              with_reducible refine (kb.out).mono ?_
              rintro e v3 ⟨rfl, hu3⟩
              replace hx := hx.keep hu3
              replace hm := hm.keep hu3
              replace u := u.trans hu3
              clear hu3
              have kc := iMod_bs (by omega) (by omega) hx hm
              rw [optN_yes h1, ← HS.out, ← HV.out] at kc
              replace kc := Lib.hid kc
              go_wp2_with fail
              with_reducible refine (kc.out).mono ?_
              rintro e v4 ⟨adc, cdc, rfl, hc, hu4⟩
              replace hx := hx.keep hu4
              replace hm := hm.keep hu4
              replace u := u.trans hu4
              clear hu4
              go_wp2_with fail
              with_reducible refine (sModulusSize_yes (by omega) hm h1).mono ?_
              rintro e v5 ⟨rfl, hu5⟩
              replace hx := hx.keep hu5
              replace hm := hm.keep hu5
              replace hc := hc.keep hu5
              replace u := u.trans hu5
              clear hu5
              have kl := iBitLen_bs (by omega) hx
              rw [← Hlx.out] at kl
              replace kl := Lib.hid kl
              go_wp2_with fail
              with_reducible refine (kl.out).mono ?_
              rintro e v6 ⟨rfl, hu6⟩
              replace hx := hx.keep hu6
              replace hm := hm.keep hu6
              replace hc := hc.keep hu6
              replace u := u.trans hu6
              clear hu6
              have kl := iBitLen_bs (by omega) hm
              rw [← Hlm.out] at kl
              replace kl := Lib.hid kl
              go_wp2_with fail
              with_reducible refine (kl.out).mono ?_
              rintro e v7 ⟨rfl, hu7⟩
              replace hx := hx.keep hu7
              replace hm := hm.keep hu7
              replace hc := hc.keep hu7
              replace u := u.trans hu7
              clear hu7
              go_wp2_with fail
              go_ret
              exact ⟨by first | rfl | (refine ret_bool ?_; simp; done) | (refine ret_bool ?_; simp; omega), u⟩
        · go_enter Try.func8, Try.ntmps8
          have u := Upd.refl (fun _ => False) w
          go_wp2_with fail
          with_reducible refine (beyond_no t0 hx hm).mono ?_
          rintro e v1 ⟨rfl, hu1⟩
          replace hx := hx.keep hu1
          replace hm := hm.keep hu1
          replace u := u.trans hu1
          clear hu1
          have ka := iSetOverflowing_bs (fun h => by omega) (by omega) hx hm
          rw [optN_no (fun h => h1 h.1)] at ka
          replace ka := Lib.hid ka
          go_wp2_with fail
          with_reducible refine (ka.out).mono ?_
          rintro e v2 ⟨rfl, hu2⟩
          replace hx := hx.keep hu2
          replace hm := hm.keep hu2
          replace u := u.trans hu2
          clear hu2
          have kb := iSetBytes_bs (fun h => by omega) (by omega) hx hm
          rw [optN_no (fun h => h1 h.1)] at kb
          replace kb := Lib.hid kb
          go_wp2_with fail
          with_reducible refine (kb.out).mono ?_
          rintro e v3 ⟨rfl, hu3⟩
          replace hx := hx.keep hu3
          replace hm := hm.keep hu3
          replace u := u.trans hu3
          clear hu3
          have kc := iMod_bs (by omega) (by omega) hx hm
          rw [optN_no h1] at kc
          replace kc := Lib.hid kc
          go_wp2_with fail
          with_reducible refine (kc.out).mono ?_
          rintro e v4 ⟨rfl, hu4⟩
          replace hx := hx.keep hu4
          replace hm := hm.keep hu4
          replace u := u.trans hu4
          clear hu4
          go_wp2_with fail
          with_reducible refine (sModulusSize_no (by omega) hm h1).mono ?_
          rintro e v5 ⟨rfl, hu5⟩
          replace hx := hx.keep hu5
          replace hm := hm.keep hu5
          replace u := u.trans hu5
          clear hu5
          go_wp2_with fail
          go_ret
          exact ⟨rfl, u⟩

set_option maxRecDepth 100000 in
set_option maxHeartbeats 4000000 in
theorem law_FnModProduct (ax : Option Addr) (nx cx : Nat) (fx : Nat → Nat) (aa : Option Addr) (na ca : Nat) (fa : Nat → Nat) (ak : Option Addr) (nk ck : Nat) (fk : Nat → Nat) (w : World) (hfx : ∀ i, i < nx → fx i < 256) (hsx : Sl .u8 w ax nx cx fx) (hfa : ∀ i, i < na → fa i < 256) (hsa : Sl .u8 w aa na ca fa) (hfk : ∀ i, i < nk → fk i < 256) (hsk : Sl .u8 w ak nk ck fk) :
    Calls Try.prog 5 #[.slice ax nx cx, .slice aa na ca, .slice ak nk ck] w (Holds1 w) := by
  obtain ⟨Xx, HXx⟩ : ∃ X, Hid (X = be fx nx) := ⟨_, rfl⟩
  have hx : Bs w ax nx cx Xx := by rw [HXx.out]; exact .mk' hfx hsx
  clear hfx hsx HXx
  obtain ⟨Xa, HXa⟩ : ∃ X, Hid (X = be fa na) := ⟨_, rfl⟩
  have ha : Bs w aa na ca Xa := by rw [HXa.out]; exact .mk' hfa hsa
  clear hfa hsa HXa
  obtain ⟨Xk, HXk⟩ : ∃ X, Hid (X = be fk nk) := ⟨_, rfl⟩
  have hk : Bs w ak nk ck Xk := by rw [HXk.out]; exact .mk' hfk hsk
  clear hfk hsk HXk
  by_cases s0 : 2147483647 < nx
  · go_enter Try.func5, Try.ntmps5
    go_wp2_with fail
    go_ret
    exact ⟨rfl, .refl _ _⟩
  · skip
    by_cases s1 : 2147483647 < na
    · go_enter Try.func5, Try.ntmps5
      go_wp2_with fail
      go_ret
      exact ⟨rfl, .refl _ _⟩
    · skip
      by_cases s2 : 2147483647 < nk
      · go_enter Try.func5, Try.ntmps5
        go_wp2_with fail
        go_ret
        exact ⟨rfl, .refl _ _⟩
      · skip
        by_cases t0 : 300 < nx
        · go_enter Try.func5, Try.ntmps5
          have u := Upd.refl (fun _ => False) w
          go_wp2_with fail
          with_reducible refine (long_yes t0 hx).mono ?_
          rintro e v1 ⟨rfl, hu1⟩
          replace hx := hx.keep hu1
          replace ha := ha.keep hu1
          replace hk := hk.keep hu1
          replace u := u.trans hu1
          clear hu1
          go_wp2_with fail
          go_ret
          exact ⟨rfl, u⟩
        · skip
          by_cases t1 : 140 < na
          · go_enter Try.func5, Try.ntmps5
            have u := Upd.refl (fun _ => False) w
            go_wp2_with fail
            with_reducible refine (long_no t0 hx).mono ?_
            rintro e v1 ⟨rfl, hu1⟩
            replace hx := hx.keep hu1
            replace ha := ha.keep hu1
            replace hk := hk.keep hu1
            replace u := u.trans hu1
            clear hu1
            go_wp2_with fail
            go_ret
            exact ⟨rfl, u⟩
          · skip
            by_cases t2 : 140 < nk
            · go_enter Try.func5, Try.ntmps5
              have u := Upd.refl (fun _ => False) w
              go_wp2_with fail
              with_reducible refine (long_no t0 hx).mono ?_
              rintro e v1 ⟨rfl, hu1⟩
              replace hx := hx.keep hu1
              replace ha := ha.keep hu1
              replace hk := hk.keep hu1
              replace u := u.trans hu1
              clear hu1
              go_wp2_with fail
              go_ret
              exact ⟨rfl, u⟩
            · skip
              have hnba := ha.nb
              have hnbk := hk.nb
              by_cases h1 : 1 < Xa
              · by_cases h2 : 1 < Xk
                · skip
                  have hP : 1 < Xa * Xk := Nat.lt_of_lt_of_le h1 (Nat.le_mul_of_pos_right Xa (by omega))
                  have hnP := nb_mul_le Xa Xk
                  obtain ⟨P, HP⟩ : ∃ P, Hid (P = Xa * Xk) := ⟨_, rfl⟩
                  have H1 := Lib.hid hP
                  rw [← HP.out] at hnP hP
                  obtain ⟨V, HV⟩ : ∃ V, Hid (V = Xx % P) := ⟨_, rfl⟩
                  have Ea : Hid (V % Xa = Xx % Xa) := by show _ = _; rw [HV.out, HP.out]; exact Nat.mod_mul_right_mod ..
                  have Ek : Hid (V % Xk = Xx % Xk) := by show _ = _; rw [HV.out, HP.out]; exact Nat.mod_mul_left_mod ..
                  go_enter Try.func5, Try.ntmps5
                  have u := Upd.refl (fun _ => False) w
                  go_wp2_with fail
                  with_reducible refine (long_no t0 hx).mono ?_
                  rintro e v1 ⟨rfl, hu1⟩
                  replace hx := hx.keep hu1
                  replace ha := ha.keep hu1
                  replace hk := hk.keep hu1
                  replace u := u.trans hu1
                  clear hu1
                  go_wp2_with fail
                  with_reducible refine (sModulusSize_yes (by omega) ha h1).mono ?_
                  rintro e v2 ⟨rfl, hu2⟩
                  replace hx := hx.keep hu2
                  replace ha := ha.keep hu2
                  replace hk := hk.keep hu2
                  replace u := u.trans hu2
                  clear hu2
                  go_wp2_with fail
                  with_reducible refine (sModulusSize_yes (by omega) hk h2).mono ?_
                  rintro e v3 ⟨rfl, hu3⟩
                  replace hx := hx.keep hu3
                  replace ha := ha.keep hu3
                  replace hk := hk.keep hu3
                  replace u := u.trans hu3
                  clear hu3
                  have kp := iModulusProduct_bs (by omega) (by omega) (by omega) (by omega) ha hk
                  rw [optN_yes H1.out, ← HP.out] at kp
                  replace kp := Lib.hid kp
                  go_wp2_with fail
                  with_reducible refine (kp.out).mono ?_
                  rintro e v4 ⟨adp, cdp, rfl, hp, hu4⟩
                  replace hx := hx.keep hu4
                  replace ha := ha.keep hu4
                  replace hk := hk.keep hu4
                  replace u := u.trans hu4
                  clear hu4
                  have kq := iMod_bs (by omega) (by omega) hx hp
                  rw [optN_yes hP, ← HV.out] at kq
                  replace kq := Lib.hid kq
                  go_wp2_with fail
                  with_reducible refine (kq.out).mono ?_
                  rintro e v5 ⟨adq, cdq, rfl, hq, hu5⟩
                  replace hx := hx.keep hu5
                  replace ha := ha.keep hu5
                  replace hk := hk.keep hu5
                  replace hp := hp.keep hu5
                  replace u := u.trans hu5
                  clear hu5
                  have kr := iMod_bs (by omega) (by omega) hq ha
                  rw [optN_yes h1, Ea.out] at kr
                  replace kr := Lib.hid kr
                  go_wp2_with fail
                  with_reducible refine (kr.out).mono ?_
                  rintro e v6 ⟨adr, cdr, rfl, hr, hu6⟩
                  replace hx := hx.keep hu6
                  replace ha := ha.keep hu6
                  replace hk := hk.keep hu6
                  replace hp := hp.keep hu6
                  replace hq := hq.keep hu6
                  replace u := u.trans hu6
                  clear hu6
                  have kr := iMod_bs (by omega) (by omega) hx ha
                  rw [optN_yes h1] at kr
                  replace kr := Lib.hid kr
                  go_wp2_with fail
                  with_reducible refine (kr.out).mono ?_
                  rintro e v7 ⟨ads, cds, rfl, hs, hu7⟩
                  replace hx := hx.keep hu7
                  replace ha := ha.keep hu7
                  replace hk := hk.keep hu7
                  replace hp := hp.keep hu7
                  replace hq := hq.keep hu7
                  replace hr := hr.keep hu7
                  replace u := u.trans hu7
                  clear hu7
                  have kr := iMod_bs (by omega) (by omega) hq hk
                  rw [optN_yes h2, Ek.out] at kr
                  replace kr := Lib.hid kr
                  go_wp2_with fail
                  with_reducible refine (kr.out).mono ?_
                  rintro e v8 ⟨adt, cdt, rfl, ht, hu8⟩
                  replace hx := hx.keep hu8
                  replace ha := ha.keep hu8
                  replace hk := hk.keep hu8
                  replace hp := hp.keep hu8
                  replace hq := hq.keep hu8
                  replace hr := hr.keep hu8
                  replace hs := hs.keep hu8
                  replace u := u.trans hu8
                  clear hu8
                  have kr := iMod_bs (by omega) (by omega) hx hk
                  rw [optN_yes h2] at kr
                  replace kr := Lib.hid kr
                  go_wp2_with fail
                  with_reducible refine (kr.out).mono ?_
                  rintro e v9 ⟨adv, cdv, rfl, hv, hu9⟩
                  replace hx := hx.keep hu9
                  replace ha := ha.keep hu9
                  replace hk := hk.keep hu9
                  replace hp := hp.keep hu9
                  replace hq := hq.keep hu9
                  replace hr := hr.keep hu9
                  replace hs := hs.keep hu9
                  replace ht := ht.keep hu9
                  replace u := u.trans hu9
                  clear hu9
                  go_wp2_with fail
                  with_reducible refine (same_eq (by omega) hr hs).mono ?_
                  rintro e v10 ⟨rfl, hu10⟩
                  replace hx := hx.keep hu10
                  replace ha := ha.keep hu10
                  replace hk := hk.keep hu10
                  replace hp := hp.keep hu10
                  replace hq := hq.keep hu10
                  replace hr := hr.keep hu10
                  replace hs := hs.keep hu10
                  replace ht := ht.keep hu10
                  replace hv := hv.keep hu10
                  replace u := u.trans hu10
                  clear hu10
                  go_wp2_with fail
                  with_reducible refine (same_eq (by omega) ht hv).mono ?_
                  rintro e v11 ⟨rfl, hu11⟩
                  replace hx := hx.keep hu11
                  replace ha := ha.keep hu11
                  replace hk := hk.keep hu11
                  replace hp := hp.keep hu11
                  replace hq := hq.keep hu11
                  replace hr := hr.keep hu11
                  replace hs := hs.keep hu11
                  replace ht := ht.keep hu11
                  replace hv := hv.keep hu11
                  replace u := u.trans hu11
                  clear hu11
                  go_wp2_with fail
                  go_ret
                  exact ⟨rfl, u⟩
                · go_enter Try.func5, Try.ntmps5
                  have u := Upd.refl (fun _ => False) w
                  go_wp2_with fail
                  with_reducible refine (long_no t0 hx).mono ?_
                  rintro e v1 ⟨rfl, hu1⟩
                  replace hx := hx.keep hu1
                  replace ha := ha.keep hu1
                  replace hk := hk.keep hu1
                  replace u := u.trans hu1
                  clear hu1
                  go_wp2_with fail
                  with_reducible refine (sModulusSize_yes (by omega) ha h1).mono ?_
                  rintro e v2 ⟨rfl, hu2⟩
                  replace hx := hx.keep hu2
                  replace ha := ha.keep hu2
                  replace hk := hk.keep hu2
                  replace u := u.trans hu2
                  clear hu2
                  go_wp2_with fail
                  with_reducible refine (sModulusSize_no (by omega) hk h2).mono ?_
                  rintro e v3 ⟨rfl, hu3⟩
                  replace hx := hx.keep hu3
                  replace ha := ha.keep hu3
                  replace hk := hk.keep hu3
                  replace u := u.trans hu3
                  clear hu3
                  go_wp2_with fail
                  go_ret
                  exact ⟨rfl, u⟩
              · by_cases h2 : 1 < Xk
                · go_enter Try.func5, Try.ntmps5
                  have u := Upd.refl (fun _ => False) w
                  go_wp2_with fail
                  with_reducible refine (long_no t0 hx).mono ?_
                  rintro e v1 ⟨rfl, hu1⟩
                  replace hx := hx.keep hu1
                  replace ha := ha.keep hu1
                  replace hk := hk.keep hu1
                  replace u := u.trans hu1
                  clear hu1
                  go_wp2_with fail
                  with_reducible refine (sModulusSize_no (by omega) ha h1).mono ?_
                  rintro e v2 ⟨rfl, hu2⟩
                  replace hx := hx.keep hu2
                  replace ha := ha.keep hu2
                  replace hk := hk.keep hu2
                  replace u := u.trans hu2
                  clear hu2
                  go_wp2_with fail
                  with_reducible refine (sModulusSize_yes (by omega) hk h2).mono ?_
                  rintro e v3 ⟨rfl, hu3⟩
                  replace hx := hx.keep hu3
                  replace ha := ha.keep hu3
                  replace hk := hk.keep hu3
                  replace u := u.trans hu3
                  clear hu3
                  go_wp2_with fail
                  go_ret
                  exact ⟨rfl, u⟩
                · go_enter Try.func5, Try.ntmps5
                  have u := Upd.refl (fun _ => False) w
                  go_wp2_with fail
                  with_reducible refine (long_no t0 hx).mono ?_
                  rintro e v1 ⟨rfl, hu1⟩
                  replace hx := hx.keep hu1
                  replace ha := ha.keep hu1
                  replace hk := hk.keep hu1
                  replace u := u.trans hu1
                  clear hu1
                  go_wp2_with fail
                  with_reducible refine (sModulusSize_no (by omega) ha h1).mono ?_
                  rintro e v2 ⟨rfl, hu2⟩
                  replace hx := hx.keep hu2
                  replace ha := ha.keep hu2
                  replace hk := hk.keep hu2
                  replace u := u.trans hu2
                  clear hu2
                  go_wp2_with fail
                  with_reducible refine (sModulusSize_no (by omega) hk h2).mono ?_
                  rintro e v3 ⟨rfl, hu3⟩
                  replace hx := hx.keep hu3
                  replace ha := ha.keep hu3
                  replace hk := hk.keep hu3
                  replace u := u.trans hu3
                  clear hu3
                  go_wp2_with fail
                  go_ret
                  exact ⟨rfl, u⟩

set_option maxRecDepth 100000 in
set_option maxHeartbeats 4000000 in
theorem law_FnGCDDivides (ax : Option Addr) (nx cx : Nat) (fx : Nat → Nat) (ay : Option Addr) (ny cy : Nat) (fy : Nat → Nat) (w : World) (hfx : ∀ i, i < nx → fx i < 256) (hsx : Sl .u8 w ax nx cx fx) (hfy : ∀ i, i < ny → fy i < 256) (hsy : Sl .u8 w ay ny cy fy) :
    Calls Try.prog 18 #[.slice ax nx cx, .slice ay ny cy] w (Holds1 w) := by
  obtain ⟨Xx, HXx⟩ : ∃ X, Hid (X = be fx nx) := ⟨_, rfl⟩
  have hx : Bs w ax nx cx Xx := by rw [HXx.out]; exact .mk' hfx hsx
  clear hfx hsx HXx
  obtain ⟨Xy, HXy⟩ : ∃ X, Hid (X = be fy ny) := ⟨_, rfl⟩
  have hy : Bs w ay ny cy Xy := by rw [HXy.out]; exact .mk' hfy hsy
  clear hfy hsy HXy
  by_cases s0 : 2147483647 < nx
  · go_enter Try.func18, Try.ntmps18
    go_wp2_with fail
    go_ret
    exact ⟨rfl, .refl _ _⟩
  · skip
    by_cases s1 : 2147483647 < ny
    · go_enter Try.func18, Try.ntmps18
      go_wp2_with fail
      go_ret
      exact ⟨rfl, .refl _ _⟩
    · skip
      by_cases t0 : 300 < nx
      · go_enter Try.func18, Try.ntmps18
        have u := Upd.refl (fun _ => False) w
        go_wp2_with fail
        with_reducible refine (long_yes t0 hx).mono ?_
        rintro e v1 ⟨rfl, hu1⟩
        replace hx := hx.keep hu1
        replace hy := hy.keep hu1
        replace u := u.trans hu1
        clear hu1
        go_wp2_with fail
        go_ret
        exact ⟨rfl, u⟩
      · skip
        by_cases t1 : 300 < ny
        · go_enter Try.func18, Try.ntmps18
          have u := Upd.refl (fun _ => False) w
          go_wp2_with fail
          with_reducible refine (long_no t0 hx).mono ?_
          rintro e v1 ⟨rfl, hu1⟩
          replace hx := hx.keep hu1
          replace hy := hy.keep hu1
          replace u := u.trans hu1
          clear hu1
          go_wp2_with fail
          with_reducible refine (long_yes t1 hy).mono ?_
          rintro e v2 ⟨rfl, hu2⟩
          replace hx := hx.keep hu2
          replace hy := hy.keep hu2
          replace u := u.trans hu2
          clear hu2
          go_wp2_with fail
          go_ret
          exact ⟨rfl, u⟩
        · skip
          by_cases t2 : Xx = 0
          · go_enter Try.func18, Try.ntmps18
            have u := Upd.refl (fun _ => False) w
            go_wp2_with fail
            with_reducible refine (long_no t0 hx).mono ?_
            rintro e v1 ⟨rfl, hu1⟩
            replace hx := hx.keep hu1
            replace hy := hy.keep hu1
            replace u := u.trans hu1
            clear hu1
            go_wp2_with fail
            with_reducible refine (long_no t1 hy).mono ?_
            rintro e v2 ⟨rfl, hu2⟩
            replace hx := hx.keep hu2
            replace hy := hy.keep hu2
            replace u := u.trans hu2
            clear hu2
            go_wp2_with fail
            with_reducible refine (zero_yes (by omega) hx t2).mono ?_
            rintro e v3 ⟨rfl, hu3⟩
            replace hx := hx.keep hu3
            replace hy := hy.keep hu3
            replace u := u.trans hu3
            clear hu3
            go_wp2_with fail
            go_ret
            exact ⟨rfl, u⟩
          · skip
            by_cases t3 : Xy = 0
            · go_enter Try.func18, Try.ntmps18
              have u := Upd.refl (fun _ => False) w
              go_wp2_with fail
              with_reducible refine (long_no t0 hx).mono ?_
              rintro e v1 ⟨rfl, hu1⟩
              replace hx := hx.keep hu1
              replace hy := hy.keep hu1
              replace u := u.trans hu1
              clear hu1
              go_wp2_with fail
              with_reducible refine (long_no t1 hy).mono ?_
              rintro e v2 ⟨rfl, hu2⟩
              replace hx := hx.keep hu2
              replace hy := hy.keep hu2
              replace u := u.trans hu2
              clear hu2
              go_wp2_with fail
              with_reducible refine (zero_no (by omega) hx t2).mono ?_
              rintro e v3 ⟨rfl, hu3⟩
              replace hx := hx.keep hu3
              replace hy := hy.keep hu3
              replace u := u.trans hu3
              clear hu3
              go_wp2_with fail
              with_reducible refine (zero_yes (by omega) hy t3).mono ?_
              rintro e v4 ⟨rfl, hu4⟩
              replace hx := hx.keep hu4
              replace hy := hy.keep hu4
              replace u := u.trans hu4
              clear hu4
              go_wp2_with fail
              go_ret
              exact ⟨rfl, u⟩
            · skip
              obtain ⟨G, HG⟩ : ∃ G, Hid (G = Nat.gcd Xx Xy) := ⟨_, rfl⟩
              obtain ⟨gS, HgS⟩ : ∃ S, Hid (S = nb G) := ⟨_, rfl⟩
              have hG1 : G ≤ Xx := by rw [HG.out]; exact Nat.gcd_le_left _ (by omega)
              have hG0 : 0 < G := by rw [HG.out]; exact Nat.gcd_pos_of_pos_left _ (by omega)
              have hgS : gS ≤ 300 := by rw [HgS.out]; exact Nat.le_trans (nb_mono hG1) (Nat.le_trans hx.nb (by omega))
              have HgO : Hid (Xx % 2 = 1 ∨ Xy % 2 = 1 → gcdO Xx Xy = some (gS, G)) := fun h => by rw [HgS.out, HG.out]; exact gcdO_some (by omega)
              have Ex : Hid (Xx % G = 0) := by show _ = _; rw [HG.out]; exact Nat.mod_eq_zero_of_dvd (Nat.gcd_dvd_left _ _)
              have Ey : Hid (Xy % G = 0) := by show _ = _; rw [HG.out]; exact Nat.mod_eq_zero_of_dvd (Nat.gcd_dvd_right _ _)
              by_cases ox : Xx % 2 = 1
              · skip
                have kO := Lib.hid (HgO.out (.inl ox))
                have HgS3 : Hid (nb G = gS) := HgS.out.symm
                by_cases hg1 : G = 1
                · have HgS1 : Hid (gS = 1) := by show _ = _; rw [HgS.out, hg1]; rfl
                  subst hg1
                  go_enter Try.func18, Try.ntmps18
                  have u := Upd.refl (fun _ => False) w
                  go_wp2_with fail
                  with_reducible refine (long_no t0 hx).mono ?_
                  rintro e v1 ⟨rfl, hu1⟩
                  replace hx := hx.keep hu1
                  replace hy := hy.keep hu1
                  replace u := u.trans hu1
                  clear hu1
                  go_wp2_with fail
                  with_reducible refine (long_no t1 hy).mono ?_
                  rintro e v2 ⟨rfl, hu2⟩
                  replace hx := hx.keep hu2
                  replace hy := hy.keep hu2
                  replace u := u.trans hu2
                  clear hu2
                  go_wp2_with fail
                  with_reducible refine (zero_no (by omega) hx t2).mono ?_
                  rintro e v3 ⟨rfl, hu3⟩
                  replace hx := hx.keep hu3
                  replace hy := hy.keep hu3
                  replace u := u.trans hu3
                  clear hu3
                  go_wp2_with fail
                  with_reducible refine (zero_no (by omega) hy t3).mono ?_
                  rintro e v4 ⟨rfl, hu4⟩
                  replace hx := hx.keep hu4
                  replace hy := hy.keep hu4
                  replace u := u.trans hu4
                  clear hu4
                  go_wp2_with fail
                  with_reducible refine (odd_yes (by omega) hx (by omega)).mono ?_
                  rintro e v5 ⟨rfl, hu5⟩
                  replace hx := hx.keep hu5
                  replace hy := hy.keep hu5
                  replace u := u.trans hu5
                  clear hu5
                  have kg := iGCD_bs (by omega) (by omega) hx hy
                  rw [kO.out, HgS1.out] at kg
                  replace kg := Lib.hid kg
                  go_wp2_with fail
                  with_reducible refine (kg.out).mono ?_
                  rintro e v6 ⟨adg, cdg, rfl, hg, hu6⟩
                  replace hx := hx.keep hu6
                  replace hy := hy.keep hu6
                  replace u := u.trans hu6
                  clear hu6
                  obtain ⟨bg, og, rfl, hcg⟩ := hg.first
                  go_wp2_with fail
                  go_ret
                  exact ⟨rfl, u⟩
                · by_cases hs : gS = 1
                  · have hG256 : G < 256 := by have := lt_pow_nb G; rw [← HgS.out, hs] at this; exact this
                    have hne : (((G : Nat) : Int) == 1) = false := by rw [beq_eq_false_iff_ne]; omega
                    have hGG : 1 < G := by omega
                    rw [hs] at kO
                    clear hs hg1
                    go_enter Try.func18, Try.ntmps18
                    have u := Upd.refl (fun _ => False) w
                    go_wp2_with fail
                    with_reducible refine (long_no t0 hx).mono ?_
                    rintro e v1 ⟨rfl, hu1⟩
                    replace hx := hx.keep hu1
                    replace hy := hy.keep hu1
                    replace u := u.trans hu1
                    clear hu1
                    go_wp2_with fail
                    with_reducible refine (long_no t1 hy).mono ?_
                    rintro e v2 ⟨rfl, hu2⟩
                    replace hx := hx.keep hu2
                    replace hy := hy.keep hu2
                    replace u := u.trans hu2
                    clear hu2
                    go_wp2_with fail
                    with_reducible refine (zero_no (by omega) hx t2).mono ?_
                    rintro e v3 ⟨rfl, hu3⟩
                    replace hx := hx.keep hu3
                    replace hy := hy.keep hu3
                    replace u := u.trans hu3
                    clear hu3
                    go_wp2_with fail
                    with_reducible refine (zero_no (by omega) hy t3).mono ?_
                    rintro e v4 ⟨rfl, hu4⟩
                    replace hx := hx.keep hu4
                    replace hy := hy.keep hu4
                    replace u := u.trans hu4
                    clear hu4
                    go_wp2_with fail
                    with_reducible refine (odd_yes (by omega) hx (by omega)).mono ?_
                    rintro e v5 ⟨rfl, hu5⟩
                    replace hx := hx.keep hu5
                    replace hy := hy.keep hu5
                    replace u := u.trans hu5
                    clear hu5
                    have kg := iGCD_bs (by omega) (by omega) hx hy
                    rw [kO.out] at kg
                    replace kg := Lib.hid kg
                    go_wp2_with fail
                    with_reducible refine (kg.out).mono ?_
                    rintro e v6 ⟨adg, cdg, rfl, hg, hu6⟩
                    replace hx := hx.keep hu6
                    replace hy := hy.keep hu6
                    replace u := u.trans hu6
                    clear hu6
                    have hg2 := hg
                    obtain ⟨bg, og, rfl, hcg⟩ := hg2.first
                    have ka := iMod_bs (by omega) (by omega) hx hg
                    rw [optN_yes (show 1 < G by omega)] at ka
                    replace ka := Lib.hid ka
                    go_wp2_with fail
                    with_reducible refine (ka.out).mono ?_
                    rintro e v7 ⟨ada, cda, rfl, ha, hu7⟩
                    replace hx := hx.keep hu7
                    replace hy := hy.keep hu7
                    replace hg := hg.keep hu7
                    replace u := u.trans hu7
                    clear hu7
                    have kb := iMod_bs (by omega) (by omega) hy hg
                    rw [optN_yes (show 1 < G by omega)] at kb
                    replace kb := Lib.hid kb
                    go_wp2_with fail
                    with_reducible refine (kb.out).mono ?_
                    rintro e v8 ⟨adb, cdb, rfl, hb, hu8⟩
                    replace hx := hx.keep hu8
                    replace hy := hy.keep hu8
                    replace hg := hg.keep hu8
                    replace ha := ha.keep hu8
                    replace u := u.trans hu8
                    clear hu8
                    go_wp2_with fail
                    with_reducible refine (zero_yes (by have := HgS.out; omega) ha Ex.out).mono ?_
                    rintro e v9 ⟨rfl, hu9⟩
                    replace hx := hx.keep hu9
                    replace hy := hy.keep hu9
                    replace hg := hg.keep hu9
                    replace ha := ha.keep hu9
                    replace hb := hb.keep hu9
                    replace u := u.trans hu9
                    clear hu9
                    go_wp2_with fail
                    with_reducible refine (zero_yes (by have := HgS.out; omega) hb Ey.out).mono ?_
                    rintro e v10 ⟨rfl, hu10⟩
                    replace hx := hx.keep hu10
                    replace hy := hy.keep hu10
                    replace hg := hg.keep hu10
                    replace ha := ha.keep hu10
                    replace hb := hb.keep hu10
                    replace u := u.trans hu10
                    clear hu10
                    go_wp2_with fail
                    go_ret
                    exact ⟨rfl, u⟩
                  · have hne : (((gS : Nat) : Int) == 1) = false := by rw [beq_eq_false_iff_ne]; omega
                    have hGG : 1 < G := by omega
                    clear hs hg1
                    go_enter Try.func18, Try.ntmps18
                    have u := Upd.refl (fun _ => False) w
                    go_wp2_with fail
                    with_reducible refine (long_no t0 hx).mono ?_
                    rintro e v1 ⟨rfl, hu1⟩
                    replace hx := hx.keep hu1
                    replace hy := hy.keep hu1
                    replace u := u.trans hu1
                    clear hu1
                    go_wp2_with fail
                    with_reducible refine (long_no t1 hy).mono ?_
                    rintro e v2 ⟨rfl, hu2⟩
                    replace hx := hx.keep hu2
                    replace hy := hy.keep hu2
                    replace u := u.trans hu2
                    clear hu2
                    go_wp2_with fail
                    with_reducible refine (zero_no (by omega) hx t2).mono ?_
                    rintro e v3 ⟨rfl, hu3⟩
                    replace hx := hx.keep hu3
                    replace hy := hy.keep hu3
                    replace u := u.trans hu3
                    clear hu3
                    go_wp2_with fail
                    with_reducible refine (zero_no (by omega) hy t3).mono ?_
                    rintro e v4 ⟨rfl, hu4⟩
                    replace hx := hx.keep hu4
                    replace hy := hy.keep hu4
                    replace u := u.trans hu4
                    clear hu4
                    go_wp2_with fail
                    with_reducible refine (odd_yes (by omega) hx (by omega)).mono ?_
                    rintro e v5 ⟨rfl, hu5⟩
                    replace hx := hx.keep hu5
                    replace hy := hy.keep hu5
                    replace u := u.trans hu5
                    clear hu5
                    have kg := iGCD_bs (by omega) (by omega) hx hy
                    rw [kO.out] at kg
                    replace kg := Lib.hid kg
                    go_wp2_with fail
                    with_reducible refine (kg.out).mono ?_
                    rintro e v6 ⟨adg, cdg, rfl, hg, hu6⟩
                    replace hx := hx.keep hu6
                    replace hy := hy.keep hu6
                    replace u := u.trans hu6
                    clear hu6
                    have ka := iMod_bs (by omega) (by omega) hx hg
                    rw [optN_yes (show 1 < G by omega)] at ka
                    replace ka := Lib.hid ka
                    go_wp2_with fail
                    with_reducible refine (ka.out).mono ?_
                    rintro e v7 ⟨ada, cda, rfl, ha, hu7⟩
                    replace hx := hx.keep hu7
                    replace hy := hy.keep hu7
                    replace hg := hg.keep hu7
                    replace u := u.trans hu7
                    clear hu7
                    have kb := iMod_bs (by omega) (by omega) hy hg
                    rw [optN_yes (show 1 < G by omega)] at kb
                    replace kb := Lib.hid kb
                    go_wp2_with fail
                    with_reducible refine (kb.out).mono ?_
                    rintro e v8 ⟨adb, cdb, rfl, hb, hu8⟩
                    replace hx := hx.keep hu8
                    replace hy := hy.keep hu8
                    replace hg := hg.keep hu8
                    replace ha := ha.keep hu8
                    replace u := u.trans hu8
                    clear hu8
                    go_wp2_with fail
                    with_reducible refine (zero_yes (by have := HgS.out; omega) ha Ex.out).mono ?_
                    rintro e v9 ⟨rfl, hu9⟩
                    replace hx := hx.keep hu9
                    replace hy := hy.keep hu9
                    replace hg := hg.keep hu9
                    replace ha := ha.keep hu9
                    replace hb := hb.keep hu9
                    replace u := u.trans hu9
                    clear hu9
                    go_wp2_with fail
                    with_reducible refine (zero_yes (by have := HgS.out; omega) hb Ey.out).mono ?_
                    rintro e v10 ⟨rfl, hu10⟩
                    replace hx := hx.keep hu10
                    replace hy := hy.keep hu10
                    replace hg := hg.keep hu10
                    replace ha := ha.keep hu10
                    replace hb := hb.keep hu10
                    replace u := u.trans hu10
                    clear hu10
                    go_wp2_with fail
                    go_ret
                    exact ⟨rfl, u⟩
              · by_cases oy : Xy % 2 = 1
                · skip
                  have kO := Lib.hid (HgO.out (.inr oy))
                  have HgS3 : Hid (nb G = gS) := HgS.out.symm
                  by_cases hg1 : G = 1
                  · have HgS1 : Hid (gS = 1) := by show _ = _; rw [HgS.out, hg1]; rfl
                    subst hg1
                    go_enter Try.func18, Try.ntmps18
                    have u := Upd.refl (fun _ => False) w
                    go_wp2_with fail
                    with_reducible refine (long_no t0 hx).mono ?_
                    rintro e v1 ⟨rfl, hu1⟩
                    replace hx := hx.keep hu1
                    replace hy := hy.keep hu1
                    replace u := u.trans hu1
                    clear hu1
                    go_wp2_with fail
                    with_reducible refine (long_no t1 hy).mono ?_
                    rintro e v2 ⟨rfl, hu2⟩
                    replace hx := hx.keep hu2
                    replace hy := hy.keep hu2
                    replace u := u.trans hu2
                    clear hu2
                    go_wp2_with fail
                    with_reducible refine (zero_no (by omega) hx t2).mono ?_
                    rintro e v3 ⟨rfl, hu3⟩
                    replace hx := hx.keep hu3
                    replace hy := hy.keep hu3
                    replace u := u.trans hu3
                    clear hu3
                    go_wp2_with fail
                    with_reducible refine (zero_no (by omega) hy t3).mono ?_
                    rintro e v4 ⟨rfl, hu4⟩
                    replace hx := hx.keep hu4
                    replace hy := hy.keep hu4
                    replace u := u.trans hu4
                    clear hu4
                    go_wp2_with fail
                    with_reducible refine (odd_no (by omega) hx ox).mono ?_
                    rintro e v5 ⟨rfl, hu5⟩
                    replace hx := hx.keep hu5
                    replace hy := hy.keep hu5
                    replace u := u.trans hu5
                    clear hu5
                    go_wp2_with fail
                    with_reducible refine (odd_yes (by omega) hy (by omega)).mono ?_
                    rintro e v6 ⟨rfl, hu6⟩
                    replace hx := hx.keep hu6
                    replace hy := hy.keep hu6
                    replace u := u.trans hu6
                    clear hu6
                    have kg := iGCD_bs (by omega) (by omega) hx hy
                    rw [kO.out, HgS1.out] at kg
                    replace kg := Lib.hid kg
                    go_wp2_with fail
                    with_reducible refine (kg.out).mono ?_
                    rintro e v7 ⟨adg, cdg, rfl, hg, hu7⟩
                    replace hx := hx.keep hu7
                    replace hy := hy.keep hu7
                    replace u := u.trans hu7
                    clear hu7
                    obtain ⟨bg, og, rfl, hcg⟩ := hg.first
                    go_wp2_with fail
                    go_ret
                    exact ⟨rfl, u⟩
                  · by_cases hs : gS = 1
                    · have hG256 : G < 256 := by have := lt_pow_nb G; rw [← HgS.out, hs] at this; exact this
                      have hne : (((G : Nat) : Int) == 1) = false := by rw [beq_eq_false_iff_ne]; omega
                      have hGG : 1 < G := by omega
                      rw [hs] at kO
                      clear hs hg1
                      go_enter Try.func18, Try.ntmps18
                      have u := Upd.refl (fun _ => False) w
                      go_wp2_with fail
                      with_reducible refine (long_no t0 hx).mono ?_
                      rintro e v1 ⟨rfl, hu1⟩
                      replace hx := hx.keep hu1
                      replace hy := hy.keep hu1
                      replace u := u.trans hu1
                      clear hu1
                      go_wp2_with fail
                      with_reducible refine (long_no t1 hy).mono ?_
                      rintro e v2 ⟨rfl, hu2⟩
                      replace hx := hx.keep hu2
                      replace hy := hy.keep hu2
                      replace u := u.trans hu2
                      clear hu2
                      go_wp2_with fail
                      with_reducible refine (zero_no (by omega) hx t2).mono ?_
                      rintro e v3 ⟨rfl, hu3⟩
                      replace hx := hx.keep hu3
                      replace hy := hy.keep hu3
                      replace u := u.trans hu3
                      clear hu3
                      go_wp2_with fail
                      with_reducible refine (zero_no (by omega) hy t3).mono ?_
                      rintro e v4 ⟨rfl, hu4⟩
                      replace hx := hx.keep hu4
                      replace hy := hy.keep hu4
                      replace u := u.trans hu4
                      clear hu4
                      go_wp2_with fail
                      with_reducible refine (odd_no (by omega) hx ox).mono ?_
                      rintro e v5 ⟨rfl, hu5⟩
                      replace hx := hx.keep hu5
                      replace hy := hy.keep hu5
                      replace u := u.trans hu5
                      clear hu5
                      go_wp2_with fail
                      with_reducible refine (odd_yes (by omega) hy (by omega)).mono ?_
                      rintro e v6 ⟨rfl, hu6⟩
                      replace hx := hx.keep hu6
                      replace hy := hy.keep hu6
                      replace u := u.trans hu6
                      clear hu6
                      have kg := iGCD_bs (by omega) (by omega) hx hy
                      rw [kO.out] at kg
                      replace kg := Lib.hid kg
                      go_wp2_with fail
                      with_reducible refine (kg.out).mono ?_
                      rintro e v7 ⟨adg, cdg, rfl, hg, hu7⟩
                      replace hx := hx.keep hu7
                      replace hy := hy.keep hu7
                      replace u := u.trans hu7
                      clear hu7
                      have hg2 := hg
                      obtain ⟨bg, og, rfl, hcg⟩ := hg2.first
                      have ka := iMod_bs (by omega) (by omega) hx hg
                      rw [optN_yes (show 1 < G by omega)] at ka
                      replace ka := Lib.hid ka
                      go_wp2_with fail
                      with_reducible refine (ka.out).mono ?_
                      rintro e v8 ⟨ada, cda, rfl, ha, hu8⟩
                      replace hx := hx.keep hu8
                      replace hy := hy.keep hu8
                      replace hg := hg.keep hu8
                      replace u := u.trans hu8
                      clear hu8
                      have kb := iMod_bs (by omega) (by omega) hy hg
                      rw [optN_yes (show 1 < G by omega)] at kb
                      replace kb := Lib.hid kb
                      go_wp2_with fail
                      with_reducible refine (kb.out).mono ?_
                      rintro e v9 ⟨adb, cdb, rfl, hb, hu9⟩
                      replace hx := hx.keep hu9
                      replace hy := hy.keep hu9
                      replace hg := hg.keep hu9
                      replace ha := ha.keep hu9
                      replace u := u.trans hu9
                      clear hu9
                      go_wp2_with fail
                      with_reducible refine (zero_yes (by have := HgS.out; omega) ha Ex.out).mono ?_
                      rintro e v10 ⟨rfl, hu10⟩
                      replace hx := hx.keep hu10
                      replace hy := hy.keep hu10
                      replace hg := hg.keep hu10
                      replace ha := ha.keep hu10
                      replace hb := hb.keep hu10
                      replace u := u.trans hu10
                      clear hu10
                      go_wp2_with fail
                      with_reducible refine (zero_yes (by have := HgS.out; omega) hb Ey.out).mono ?_
                      rintro e v11 ⟨rfl, hu11⟩
                      replace hx := hx.keep hu11
                      replace hy := hy.keep hu11
                      replace hg := hg.keep hu11
                      replace ha := ha.keep hu11
                      replace hb := hb.keep hu11
                      replace u := u.trans hu11
                      clear hu11
                      go_wp2_with fail
                      go_ret
                      exact ⟨rfl, u⟩
                    · have hne : (((gS : Nat) : Int) == 1) = false := by rw [beq_eq_false_iff_ne]; omega
                      have hGG : 1 < G := by omega
                      clear hs hg1
                      go_enter Try.func18, Try.ntmps18
                      have u := Upd.refl (fun _ => False) w
                      go_wp2_with fail
                      with_reducible refine (long_no t0 hx).mono ?_
                      rintro e v1 ⟨rfl, hu1⟩
                      replace hx := hx.keep hu1
                      replace hy := hy.keep hu1
                      replace u := u.trans hu1
                      clear hu1
                      go_wp2_with fail
                      with_reducible refine (long_no t1 hy).mono ?_
                      rintro e v2 ⟨rfl, hu2⟩
                      replace hx := hx.keep hu2
                      replace hy := hy.keep hu2
                      replace u := u.trans hu2
                      clear hu2
                      go_wp2_with fail
                      with_reducible refine (zero_no (by omega) hx t2).mono ?_
                      rintro e v3 ⟨rfl, hu3⟩
                      replace hx := hx.keep hu3
                      replace hy := hy.keep hu3
                      replace u := u.trans hu3
                      clear hu3
                      go_wp2_with fail
                      with_reducible refine (zero_no (by omega) hy t3).mono ?_
                      rintro e v4 ⟨rfl, hu4⟩
                      replace hx := hx.keep hu4
                      replace hy := hy.keep hu4
                      replace u := u.trans hu4
                      clear hu4
                      go_wp2_with fail
                      with_reducible refine (odd_no (by omega) hx ox).mono ?_
                      rintro e v5 ⟨rfl, hu5⟩
                      replace hx := hx.keep hu5
                      replace hy := hy.keep hu5
                      replace u := u.trans hu5
                      clear hu5
                      go_wp2_with fail
                      with_reducible refine (odd_yes (by omega) hy (by omega)).mono ?_
                      rintro e v6 ⟨rfl, hu6⟩
                      replace hx := hx.keep hu6
                      replace hy := hy.keep hu6
                      replace u := u.trans hu6
                      clear hu6
                      have kg := iGCD_bs (by omega) (by omega) hx hy
                      rw [kO.out] at kg
                      replace kg := Lib.hid kg
                      go_wp2_with fail
                      with_reducible refine (kg.out).mono ?_
                      rintro e v7 ⟨adg, cdg, rfl, hg, hu7⟩
                      replace hx := hx.keep hu7
                      replace hy := hy.keep hu7
                      replace u := u.trans hu7
                      clear hu7
                      have ka := iMod_bs (by omega) (by omega) hx hg
                      rw [optN_yes (show 1 < G by omega)] at ka
                      replace ka := Lib.hid ka
                      go_wp2_with fail
                      with_reducible refine (ka.out).mono ?_
                      rintro e v8 ⟨ada, cda, rfl, ha, hu8⟩
                      replace hx := hx.keep hu8
                      replace hy := hy.keep hu8
                      replace hg := hg.keep hu8
                      replace u := u.trans hu8
                      clear hu8
                      have kb := iMod_bs (by omega) (by omega) hy hg
                      rw [optN_yes (show 1 < G by omega)] at kb
                      replace kb := Lib.hid kb
                      go_wp2_with fail
                      with_reducible refine (kb.out).mono ?_
                      rintro e v9 ⟨adb, cdb, rfl, hb, hu9⟩
                      replace hx := hx.keep hu9
                      replace hy := hy.keep hu9
                      replace hg := hg.keep hu9
                      replace ha := ha.keep hu9
                      replace u := u.trans hu9
                      clear hu9
                      go_wp2_with fail
                      with_reducible refine (zero_yes (by have := HgS.out; omega) ha Ex.out).mono ?_
                      rintro e v10 ⟨rfl, hu10⟩
                      replace hx := hx.keep hu10
                      replace hy := hy.keep hu10
                      replace hg := hg.keep hu10
                      replace ha := ha.keep hu10
                      replace hb := hb.keep hu10
                      replace u := u.trans hu10
                      clear hu10
                      go_wp2_with fail
                      with_reducible refine (zero_yes (by have := HgS.out; omega) hb Ey.out).mono ?_
                      rintro e v11 ⟨rfl, hu11⟩
                      replace hx := hx.keep hu11
                      replace hy := hy.keep hu11
                      replace hg := hg.keep hu11
                      replace ha := ha.keep hu11
                      replace hb := hb.keep hu11
                      replace u := u.trans hu11
                      clear hu11
                      go_wp2_with fail
                      go_ret
                      exact ⟨rfl, u⟩
                · go_enter Try.func18, Try.ntmps18
                  have u := Upd.refl (fun _ => False) w
                  go_wp2_with fail
                  with_reducible refine (long_no t0 hx).mono ?_
                  rintro e v1 ⟨rfl, hu1⟩
                  replace hx := hx.keep hu1
                  replace hy := hy.keep hu1
                  replace u := u.trans hu1
                  clear hu1
                  go_wp2_with fail
                  with_reducible refine (long_no t1 hy).mono ?_
                  rintro e v2 ⟨rfl, hu2⟩
                  replace hx := hx.keep hu2
                  replace hy := hy.keep hu2
                  replace u := u.trans hu2
                  clear hu2
                  go_wp2_with fail
                  with_reducible refine (zero_no (by omega) hx t2).mono ?_
                  rintro e v3 ⟨rfl, hu3⟩
                  replace hx := hx.keep hu3
                  replace hy := hy.keep hu3
                  replace u := u.trans hu3
                  clear hu3
                  go_wp2_with fail
                  with_reducible refine (zero_no (by omega) hy t3).mono ?_
                  rintro e v4 ⟨rfl, hu4⟩
                  replace hx := hx.keep hu4
                  replace hy := hy.keep hu4
                  replace u := u.trans hu4
                  clear hu4
                  go_wp2_with fail
                  with_reducible refine (odd_no (by omega) hx ox).mono ?_
                  rintro e v5 ⟨rfl, hu5⟩
                  replace hx := hx.keep hu5
                  replace hy := hy.keep hu5
                  replace u := u.trans hu5
                  clear hu5
                  go_wp2_with fail
                  with_reducible refine (odd_no (by omega) hy oy).mono ?_
                  rintro e v6 ⟨rfl, hu6⟩
                  replace hx := hx.keep hu6
                  replace hy := hy.keep hu6
                  replace u := u.trans hu6
                  clear hu6
                  go_wp2_with fail
                  go_ret
                  exact ⟨rfl, u⟩

set_option maxRecDepth 100000 in
set_option maxHeartbeats 4000000 in
theorem law_FnGCDTimes (ax : Option Addr) (nx cx : Nat) (fx : Nat → Nat) (ay : Option Addr) (ny cy : Nat) (fy : Nat → Nat) (ak : Option Addr) (nk ck : Nat) (fk : Nat → Nat) (w : World) (hfx : ∀ i, i < nx → fx i < 256) (hsx : Sl .u8 w ax nx cx fx) (hfy : ∀ i, i < ny → fy i < 256) (hsy : Sl .u8 w ay ny cy fy) (hfk : ∀ i, i < nk → fk i < 256) (hsk : Sl .u8 w ak nk ck fk) :
    Calls Try.prog 12 #[.slice ax nx cx, .slice ay ny cy, .slice ak nk ck] w (Holds1 w) := by
  obtain ⟨Xx, HXx⟩ : ∃ X, Hid (X = be fx nx) := ⟨_, rfl⟩
  have hx : Bs w ax nx cx Xx := by rw [HXx.out]; exact .mk' hfx hsx
  clear hfx hsx HXx
  obtain ⟨Xy, HXy⟩ : ∃ X, Hid (X = be fy ny) := ⟨_, rfl⟩
  have hy : Bs w ay ny cy Xy := by rw [HXy.out]; exact .mk' hfy hsy
  clear hfy hsy HXy
  obtain ⟨Xk, HXk⟩ : ∃ X, Hid (X = be fk nk) := ⟨_, rfl⟩
  have hk : Bs w ak nk ck Xk := by rw [HXk.out]; exact .mk' hfk hsk
  clear hfk hsk HXk
  by_cases s0 : 2147483647 < nx
  · go_enter Try.func12, Try.ntmps12
    go_wp2_with fail
    go_ret
    exact ⟨rfl, .refl _ _⟩
  · skip
    by_cases s1 : 2147483647 < ny
    · go_enter Try.func12, Try.ntmps12
      go_wp2_with fail
      go_ret
      exact ⟨rfl, .refl _ _⟩
    · skip
      by_cases s2 : 2147483647 < nk
      · go_enter Try.func12, Try.ntmps12
        go_wp2_with fail
        go_ret
        exact ⟨rfl, .refl _ _⟩
      · skip
        by_cases t0 : 140 < nx
        · go_enter Try.func12, Try.ntmps12
          have u := Upd.refl (fun _ => False) w
          go_wp2_with fail
          go_ret
          exact ⟨rfl, u⟩
        · skip
          by_cases t1 : 140 < ny
          · go_enter Try.func12, Try.ntmps12
            have u := Upd.refl (fun _ => False) w
            go_wp2_with fail
            go_ret
            exact ⟨rfl, u⟩
          · skip
            by_cases t2 : 140 < nk
            · go_enter Try.func12, Try.ntmps12
              have u := Upd.refl (fun _ => False) w
              go_wp2_with fail
              go_ret
              exact ⟨rfl, u⟩
            · skip
              by_cases t3 : Xx = 0
              · go_enter Try.func12, Try.ntmps12
                have u := Upd.refl (fun _ => False) w
                go_wp2_with fail
                with_reducible refine (zero_yes (by omega) hx t3).mono ?_
                rintro e v1 ⟨rfl, hu1⟩
                replace hx := hx.keep hu1
                replace hy := hy.keep hu1
                replace hk := hk.keep hu1
                replace u := u.trans hu1
                clear hu1
                go_wp2_with fail
                go_ret
                exact ⟨rfl, u⟩
              · skip
                by_cases t4 : Xy = 0
                · go_enter Try.func12, Try.ntmps12
                  have u := Upd.refl (fun _ => False) w
                  go_wp2_with fail
                  with_reducible refine (zero_no (by omega) hx t3).mono ?_
                  rintro e v1 ⟨rfl, hu1⟩
                  replace hx := hx.keep hu1
                  replace hy := hy.keep hu1
                  replace hk := hk.keep hu1
                  replace u := u.trans hu1
                  clear hu1
                  go_wp2_with fail
                  with_reducible refine (zero_yes (by omega) hy t4).mono ?_
                  rintro e v2 ⟨rfl, hu2⟩
                  replace hx := hx.keep hu2
                  replace hy := hy.keep hu2
                  replace hk := hk.keep hu2
                  replace u := u.trans hu2
                  clear hu2
                  go_wp2_with fail
                  go_ret
                  exact ⟨rfl, u⟩
                · skip
                  by_cases t5 : ¬ Xx % 2 = 1
                  · go_enter Try.func12, Try.ntmps12
                    have u := Upd.refl (fun _ => False) w
                    go_wp2_with fail
                    with_reducible refine (zero_no (by omega) hx t3).mono ?_
                    rintro e v1 ⟨rfl, hu1⟩
                    replace hx := hx.keep hu1
                    replace hy := hy.keep hu1
                    replace hk := hk.keep hu1
                    replace u := u.trans hu1
                    clear hu1
                    go_wp2_with fail
                    with_reducible refine (zero_no (by omega) hy t4).mono ?_
                    rintro e v2 ⟨rfl, hu2⟩
                    replace hx := hx.keep hu2
                    replace hy := hy.keep hu2
                    replace hk := hk.keep hu2
                    replace u := u.trans hu2
                    clear hu2
                    go_wp2_with fail
                    with_reducible refine (odd_no (by omega) hx t5).mono ?_
                    rintro e v3 ⟨rfl, hu3⟩
                    replace hx := hx.keep hu3
                    replace hy := hy.keep hu3
                    replace hk := hk.keep hu3
                    replace u := u.trans hu3
                    clear hu3
                    go_wp2_with fail
                    go_ret
                    exact ⟨rfl, u⟩
                  · skip
                    by_cases t6 : ¬ Xk % 2 = 1
                    · go_enter Try.func12, Try.ntmps12
                      have u := Upd.refl (fun _ => False) w
                      go_wp2_with fail
                      with_reducible refine (zero_no (by omega) hx t3).mono ?_
                      rintro e v1 ⟨rfl, hu1⟩
                      replace hx := hx.keep hu1
                      replace hy := hy.keep hu1
                      replace hk := hk.keep hu1
                      replace u := u.trans hu1
                      clear hu1
                      go_wp2_with fail
                      with_reducible refine (zero_no (by omega) hy t4).mono ?_
                      rintro e v2 ⟨rfl, hu2⟩
                      replace hx := hx.keep hu2
                      replace hy := hy.keep hu2
                      replace hk := hk.keep hu2
                      replace u := u.trans hu2
                      clear hu2
                      go_wp2_with fail
                      with_reducible refine (odd_yes (by omega) hx t5).mono ?_
                      rintro e v3 ⟨rfl, hu3⟩
                      replace hx := hx.keep hu3
                      replace hy := hy.keep hu3
                      replace hk := hk.keep hu3
                      replace u := u.trans hu3
                      clear hu3
                      go_wp2_with fail
                      with_reducible refine (odd_no (by omega) hk t6).mono ?_
                      rintro e v4 ⟨rfl, hu4⟩
                      replace hx := hx.keep hu4
                      replace hy := hy.keep hu4
                      replace hk := hk.keep hu4
                      replace u := u.trans hu4
                      clear hu4
                      go_wp2_with fail
                      go_ret
                      exact ⟨rfl, u⟩
                    · skip
                      have hnx := hx.nb
                      have hny := hy.nb
                      have hnk := hk.nb
                      obtain ⟨lk, Hlk⟩ : ∃ l, Hid (l = blen Xk) := ⟨_, rfl⟩
                      have hlk := hk.blen
                      rw [← Hlk.out] at hlk
                      by_cases hk1 : 1 < Xk
                      · skip
                        have hlk2 : ¬ ((lk : Nat) : Int) < 2 := by
                          have h : ¬ blen Xk ≤ 1 := by rw [blen_le_iff]; omega
                          rw [← Hlk.out] at h
                          omega
                        have hA : 1 < Xx * Xk := Nat.lt_of_lt_of_le hk1 (Nat.le_mul_of_pos_left Xk (by omega))
                        have hB : 1 < Xy * Xk := Nat.lt_of_lt_of_le hk1 (Nat.le_mul_of_pos_left Xk (by omega))
                        have hnA := nb_mul_le Xx Xk
                        have hnB := nb_mul_le Xy Xk
                        have hAo : (Xx * Xk) % 2 = 1 := by rw [Nat.mul_mod, show Xx % 2 = 1 by omega, show Xk % 2 = 1 by omega]
                        obtain ⟨A, HA⟩ : ∃ A, Hid (A = Xx * Xk) := ⟨_, rfl⟩
                        obtain ⟨B, HB⟩ : ∃ B, Hid (B = Xy * Xk) := ⟨_, rfl⟩
                        obtain ⟨G, HG⟩ : ∃ G, Hid (G = Nat.gcd Xx Xy) := ⟨_, rfl⟩
                        have hG1 : G ≤ Xx := by rw [HG.out]; exact Nat.gcd_le_left _ (by omega)
                        have hG0 : 0 < G := by rw [HG.out]; exact Nat.gcd_pos_of_pos_left _ (by omega)
                        have hnG : nb G ≤ 140 := Nat.le_trans (nb_mono hG1) (by omega)
                        have hW : 1 < G * Xk := Nat.lt_of_lt_of_le hk1 (Nat.le_mul_of_pos_left Xk hG0)
                        have hnW := nb_mul_le G Xk
                        have HO1 : Hid (gcdO Xx Xy = some (nb G, G)) := by show _ = _; rw [HG.out]; exact gcdO_some (by omega)
                        have HO2 : Hid (gcdO A B = some (nb (G * Xk), G * Xk)) := by
                          show _ = _
                          rw [gcdO_some (by rw [HA.out, HB.out]; omega), HA.out, HB.out, HG.out, Nat.gcd_mul_right]
                        have H1 := Lib.hid hA
                        have H2 := Lib.hid hB
                        rw [← HA.out] at hnA hA
                        rw [← HB.out] at hnB hB
                        clear hAo
                        go_enter Try.func12, Try.ntmps12
                        have u := Upd.refl (fun _ => False) w
                        go_wp2_with fail
                        with_reducible refine (zero_no (by omega) hx t3).mono ?_
                        rintro e v1 ⟨rfl, hu1⟩
                        replace hx := hx.keep hu1
                        replace hy := hy.keep hu1
                        replace hk := hk.keep hu1
                        replace u := u.trans hu1
                        clear hu1
                        go_wp2_with fail
                        with_reducible refine (zero_no (by omega) hy t4).mono ?_
                        rintro e v2 ⟨rfl, hu2⟩
                        replace hx := hx.keep hu2
                        replace hy := hy.keep hu2
                        replace hk := hk.keep hu2
                        replace u := u.trans hu2
                        clear hu2
                        go_wp2_with fail
                        with_reducible refine (odd_yes (by omega) hx t5).mono ?_
                        rintro e v3 ⟨rfl, hu3⟩
                        replace hx := hx.keep hu3
                        replace hy := hy.keep hu3
                        replace hk := hk.keep hu3
                        replace u := u.trans hu3
                        clear hu3
                        go_wp2_with fail
                        with_reducible refine (odd_yes (by omega) hk t6).mono ?_
                        rintro e v4 ⟨rfl, hu4⟩
                        replace hx := hx.keep hu4
                        replace hy := hy.keep hu4
                        replace hk := hk.keep hu4
                        replace u := u.trans hu4
                        clear hu4
                        have kl := sBitLen_bs (by omega) hk
                        rw [← Hlk.out] at kl
                        replace kl := Lib.hid kl
                        go_wp2_with fail
                        with_reducible refine (kl.out).mono ?_
                        rintro e v5 ⟨rfl, hu5⟩
                        replace hx := hx.keep hu5
                        replace hy := hy.keep hu5
                        replace hk := hk.keep hu5
                        replace u := u.trans hu5
                        clear hu5
                        have ka := iModulusProduct_bs (by omega) (by omega) (by omega) (by omega) hx hk
                        rw [optN_yes H1.out, ← HA.out] at ka
                        replace ka := Lib.hid ka
                        go_wp2_with fail
                        with_reducible refine (ka.out).mono ?_
                        rintro e v6 ⟨ada, cda, rfl, ha, hu6⟩
                        replace hx := hx.keep hu6
                        replace hy := hy.keep hu6
                        replace hk := hk.keep hu6
                        replace u := u.trans hu6
                        clear hu6
                        have kb := iModulusProduct_bs (by omega) (by omega) (by omega) (by omega) hy hk
                        rw [optN_yes H2.out, ← HB.out] at kb
                        replace kb := Lib.hid kb
                        go_wp2_with fail
                        with_reducible refine (kb.out).mono ?_
                        rintro e v7 ⟨adb, cdb, rfl, hb, hu7⟩
                        replace hx := hx.keep hu7
                        replace hy := hy.keep hu7
                        replace hk := hk.keep hu7
                        replace ha := ha.keep hu7
                        replace u := u.trans hu7
                        clear hu7
                        have kg := iGCD_bs (by omega) (by omega) hx hy
                        rw [HO1.out] at kg
                        replace kg := Lib.hid kg
                        go_wp2_with fail
                        with_reducible refine (kg.out).mono ?_
                        rintro e v8 ⟨adg, cdg, rfl, hg, hu8⟩
                        replace hx := hx.keep hu8
                        replace hy := hy.keep hu8
                        replace hk := hk.keep hu8
                        replace ha := ha.keep hu8
                        replace hb := hb.keep hu8
                        replace u := u.trans hu8
                        clear hu8
                        have kh := iGCD_bs (by omega) (by omega) ha hb
                        rw [HO2.out] at kh
                        replace kh := Lib.hid kh
                        go_wp2_with fail
                        with_reducible refine (kh.out).mono ?_
                        rintro e v9 ⟨adh, cdh, rfl, hh, hu9⟩
                        replace hx := hx.keep hu9
                        replace hy := hy.keep hu9
                        replace hk := hk.keep hu9
                        replace ha := ha.keep hu9
                        replace hb := hb.keep hu9
                        replace hg := hg.keep hu9
                        replace u := u.trans hu9
                        clear hu9
                        have kw := iModulusProduct_bs (by omega) (by omega) (by omega) (by omega) hg hk
                        rw [optN_yes hW] at kw
                        replace kw := Lib.hid kw
                        go_wp2_with fail
                        with_reducible refine (kw.out).mono ?_
                        rintro e v10 ⟨adv, cdv, rfl, hv, hu10⟩
                        replace hx := hx.keep hu10
                        replace hy := hy.keep hu10
                        replace hk := hk.keep hu10
                        replace ha := ha.keep hu10
                        replace hb := hb.keep hu10
                        replace hg := hg.keep hu10
                        replace hh := hh.keep hu10
                        replace u := u.trans hu10
                        clear hu10
                        go_wp2_with fail
                        with_reducible refine (same_eq (by omega) hh hv).mono ?_
                        rintro e v11 ⟨rfl, hu11⟩
                        replace hx := hx.keep hu11
                        replace hy := hy.keep hu11
                        replace hk := hk.keep hu11
                        replace ha := ha.keep hu11
                        replace hb := hb.keep hu11
                        replace hg := hg.keep hu11
                        replace hh := hh.keep hu11
                        replace hv := hv.keep hu11
                        replace u := u.trans hu11
                        clear hu11
                        go_wp2_with fail
                        go_ret
                        exact ⟨rfl, u⟩
                      · have hlk2 : ((lk : Nat) : Int) < 2 := by
                          have h : blen Xk ≤ 1 := by rw [blen_le_iff]; omega
                          rw [← Hlk.out] at h
                          omega
                        go_enter Try.func12, Try.ntmps12
                        have u := Upd.refl (fun _ => False) w
                        go_wp2_with fail
                        with_reducible refine (zero_no (by omega) hx t3).mono ?_
                        rintro e v1 ⟨rfl, hu1⟩
                        replace hx := hx.keep hu1
                        replace hy := hy.keep hu1
                        replace hk := hk.keep hu1
                        replace u := u.trans hu1
                        clear hu1
                        go_wp2_with fail
                        with_reducible refine (zero_no (by omega) hy t4).mono ?_
                        rintro e v2 ⟨rfl, hu2⟩
                        replace hx := hx.keep hu2
                        replace hy := hy.keep hu2
                        replace hk := hk.keep hu2
                        replace u := u.trans hu2
                        clear hu2
                        go_wp2_with fail
                        with_reducible refine (odd_yes (by omega) hx t5).mono ?_
                        rintro e v3 ⟨rfl, hu3⟩
                        replace hx := hx.keep hu3
                        replace hy := hy.keep hu3
                        replace hk := hk.keep hu3
                        replace u := u.trans hu3
                        clear hu3
                        go_wp2_with fail
                        with_reducible refine (odd_yes (by omega) hk t6).mono ?_
                        rintro e v4 ⟨rfl, hu4⟩
                        replace hx := hx.keep hu4
                        replace hy := hy.keep hu4
                        replace hk := hk.keep hu4
                        replace u := u.trans hu4
                        clear hu4
                        have kl := sBitLen_bs (by omega) hk
                        rw [← Hlk.out] at kl
                        replace kl := Lib.hid kl
                        go_wp2_with fail
                        with_reducible refine (kl.out).mono ?_
                        rintro e v5 ⟨rfl, hu5⟩
                        replace hx := hx.keep hu5
                        replace hy := hy.keep hu5
                        replace hk := hk.keep hu5
                        replace u := u.trans hu5
                        clear hu5
                        go_wp2_with fail
                        go_ret
                        exact ⟨rfl, u⟩

end Go.Proofs.Ytpojonfopoobpaa
