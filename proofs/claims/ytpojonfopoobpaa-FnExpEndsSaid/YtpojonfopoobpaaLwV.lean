/-
  The law FnExpEnds.
-/
import Derived.Test.YtpojonfopoobpaaLwH
namespace Go.Proofs.Ytpojonfopoobpaa
open Go.RowKit

set_option maxRecDepth 100000 in
set_option maxHeartbeats 4000000 in
theorem law_FnExpEnds (ax : Option Addr) (nx cx : Nat) (fx : Nat → Nat) (am : Option Addr) (nm cm : Nat) (fm : Nat → Nat) (w : World) (hfx : ∀ i, i < nx → fx i < 256) (hsx : Sl .u8 w ax nx cx fx) (hfm : ∀ i, i < nm → fm i < 256) (hsm : Sl .u8 w am nm cm fm) :
    Calls Try.prog 19 #[.slice ax nx cx, .slice am nm cm] w (Holds1 w) := by
  obtain ⟨Xx, HXx⟩ : ∃ X, Hid (X = be fx nx) := ⟨_, rfl⟩
  have hx : Bs w ax nx cx Xx := by rw [HXx.out]; exact .mk' hfx hsx
  clear hfx hsx HXx
  obtain ⟨Xm, HXm⟩ : ∃ X, Hid (X = be fm nm) := ⟨_, rfl⟩
  have hm : Bs w am nm cm Xm := by rw [HXm.out]; exact .mk' hfm hsm
  clear hfm hsm HXm
  by_cases s0 : 2147483647 < nx
  · go_enter Try.func19, Try.ntmps19
    go_wp2_with fail
    go_ret
    exact ⟨rfl, .refl _ _⟩
  · skip
    by_cases s1 : 2147483647 < nm
    · go_enter Try.func19, Try.ntmps19
      go_wp2_with fail
      go_ret
      exact ⟨rfl, .refl _ _⟩
    · skip
      by_cases t0 : ¬ (nm ≤ 300 ∧ nx ≤ 300 ∧ nx ≤ nb Xm ∧ 1 < Xm ∧ Xx < Xm)
      · go_enter Try.func19, Try.ntmps19
        have u := Upd.refl (fun _ => False) w
        go_wp2_with fail
        with_reducible refine (in_no t0 hx hm).mono ?_
        rintro e v1 ⟨rfl, hu1⟩
        replace hx := hx.keep hu1
        replace hm := hm.keep hu1
        replace u := u.trans hu1
        clear hu1
        go_wp2_with fail
        go_ret
        exact ⟨rfl, u⟩
      · skip
        by_cases t1 : ¬ Xm % 2 = 1
        · go_enter Try.func19, Try.ntmps19
          have u := Upd.refl (fun _ => False) w
          go_wp2_with fail
          with_reducible refine (in_yes t0 hx hm).mono ?_
          rintro e v1 ⟨rfl, hu1⟩
          replace hx := hx.keep hu1
          replace hm := hm.keep hu1
          replace u := u.trans hu1
          clear hu1
          go_wp2_with fail
          with_reducible refine (odd_no (by omega) hm t1).mono ?_
          rintro e v2 ⟨rfl, hu2⟩
          replace hx := hx.keep hu2
          replace hm := hm.keep hu2
          replace u := u.trans hu2
          clear hu2
          go_wp2_with fail
          go_ret
          exact ⟨rfl, u⟩
        · skip
          obtain ⟨S, HS⟩ : ∃ S, Hid (S = nb Xm) := ⟨_, rfl⟩
          have hSb : S ≤ 300 := by rw [HS.out]; exact Nat.le_trans hm.nb (by omega)
          have Rx : RM Xm Xx (Xx : Int) := .base _ _
          have Rnil : RM Xm 0 0 := .zero _
          have Rone : RM Xm 1 1 := .one _
          obtain ⟨Vp, HVp⟩ : ∃ V, Hid (V = Xx ^ (0 : Nat) % Xm) := ⟨_, rfl⟩
          have lp : Vp < Xm := by rw [HVp.out]; exact Nat.mod_lt _ (by omega)
          have Rp := RM.powm HVp.out Rx
          obtain ⟨Vq, HVq⟩ : ∃ V, Hid (V = Xx ^ ((0 * 256 + 0) : Nat) % Xm) := ⟨_, rfl⟩
          have lq : Vq < Xm := by rw [HVq.out]; exact Nat.mod_lt _ (by omega)
          have Rq := RM.powm HVq.out Rx
          obtain ⟨Vr, HVr⟩ : ∃ V, Hid (V = Xx ^ (1 : Nat) % Xm) := ⟨_, rfl⟩
          have lr : Vr < Xm := by rw [HVr.out]; exact Nat.mod_lt _ (by omega)
          have Rr := RM.powm HVr.out Rx
          obtain ⟨Vs, HVs⟩ : ∃ V, Hid (V = Xx ^ (2 : Nat) % Xm) := ⟨_, rfl⟩
          have ls : Vs < Xm := by rw [HVs.out]; exact Nat.mod_lt _ (by omega)
          have Rs := RM.powm HVs.out Rx
          obtain ⟨Vt, HVt⟩ : ∃ V, Hid (V = (Xx * Xx) % Xm) := ⟨_, rfl⟩
          have lt : Vt < Xm := by rw [HVt.out]; exact Nat.mod_lt _ (by omega)
          have Rt := RM.mulm HVt.out Rx Rx
          have Hone : Hid (eqN Vp 1 = 1) := by show _ = _; rw [HVp.out, Nat.pow_zero, Nat.mod_eq_of_lt (by omega)]; rfl
          have E1 : Hid (Vp = Vq) := by
            show _ = _
            rw [HVp.out, HVq.out]
          have Rv := Rx
          have E2 : Hid (Vr = Xx) := by
            show _ = _
            exact RM.done lr (by omega) Rr Rv (by rw [Int.pow_succ, Int.pow_zero]; grind)
          have E3 : Hid (Vs = Vt) := by
            show _ = _
            exact RM.done ls lt Rs Rt (by grind)
          clear Rv Rt Rs Rr Rq Rp Rone Rnil Rx
          go_enter Try.func19, Try.ntmps19
          have u := Upd.refl (fun _ => False) w
          go_wp2_with fail
          with_reducible refine (in_yes t0 hx hm).mono ?_
          rintro e v1 ⟨rfl, hu1⟩
          replace hx := hx.keep hu1
          replace hm := hm.keep hu1
          replace u := u.trans hu1
          clear hu1
          go_wp2_with fail
          with_reducible refine (odd_yes (by omega) hm t1).mono ?_
          rintro e v2 ⟨rfl, hu2⟩
          replace hx := hx.keep hu2
          replace hm := hm.keep hu2
          replace u := u.trans hu2
          clear hu2
          have kp := iExp_bs (fun _ => by have := HS.out; omega) (by omega) (by omega) hx (Bs.emp _) hm
          rw [optN_yes (show 1 < Xm ∧ Xx < Xm ∧ Xm % 2 = 1 from ⟨by omega, by omega, by omega⟩), ← HS.out, ← HVp.out] at kp
          replace kp := Lib.hid kp
          go_wp2_with fail
          with_reducible refine (kp.out).mono ?_
          rintro e v3 ⟨adp, cdp, rfl, hp, hu3⟩
          replace hx := hx.keep hu3
          replace hm := hm.keep hu3
          replace u := u.trans hu3
          clear hu3
          go_wp2_with fail
          have ua : Upd0 v3 (v3.alloc (.cells #[.int .u8 0, .int .u8 0] 5)) := (Upd.refl _ _).alloc _
          have h00 := Bs.lit2 v3 0 0 (by omega) (by omega) 5
          replace hx := hx.keep ua
          replace hm := hm.keep ua
          replace hp := hp.keep ua
          replace u := u.trans ua
          clear ua
          have kq := iExp_bs (fun _ => by have := HS.out; omega) (by omega) (by omega) hx h00 hm
          rw [optN_yes (show 1 < Xm ∧ Xx < Xm ∧ Xm % 2 = 1 from ⟨by omega, by omega, by omega⟩), ← HS.out, ← HVq.out] at kq
          replace kq := Lib.hid kq
          go_wp2_with fail
          with_reducible refine (kq.out).mono ?_
          rintro e v4 ⟨adq, cdq, rfl, hq, hu4⟩
          replace hx := hx.keep hu4
          replace hm := hm.keep hu4
          replace hp := hp.keep hu4
          replace u := u.trans hu4
          clear hu4
          clear h00
          have kr := iExpShort_z (z := (1 : Int)) (E := 1) rfl (fun _ => by have := HS.out; omega) (by omega) (by omega) (by omega) hx hm
          rw [optN_yes (show 1 < Xm ∧ Xx < Xm ∧ Xm % 2 = 1 from ⟨by omega, by omega, by omega⟩), ← HS.out, ← HVr.out] at kr
          replace kr := Lib.hid kr
          go_wp2_with fail
          with_reducible refine (kr.out).mono ?_
          rintro e v5 ⟨adr, cdr, rfl, hr, hu5⟩
          replace hx := hx.keep hu5
          replace hm := hm.keep hu5
          replace hp := hp.keep hu5
          replace hq := hq.keep hu5
          replace u := u.trans hu5
          clear hu5
          go_wp2_with fail
          have ua : Upd0 v5 (v5.alloc (.cells #[.int .u8 2] 5)) := (Upd.refl _ _).alloc _
          have h2 := Bs.one v5 2 (by omega) 5
          replace hx := hx.keep ua
          replace hm := hm.keep ua
          replace hp := hp.keep ua
          replace hq := hq.keep ua
          replace hr := hr.keep ua
          replace u := u.trans ua
          clear ua
          have ks := iExp_bs (fun _ => by have := HS.out; omega) (by omega) (by omega) hx h2 hm
          rw [optN_yes (show 1 < Xm ∧ Xx < Xm ∧ Xm % 2 = 1 from ⟨by omega, by omega, by omega⟩), ← HS.out, ← HVs.out] at ks
          replace ks := Lib.hid ks
          go_wp2_with fail
          with_reducible refine (ks.out).mono ?_
          rintro e v6 ⟨ads, cds, rfl, hs, hu6⟩
          replace hx := hx.keep hu6
          replace hm := hm.keep hu6
          replace hp := hp.keep hu6
          replace hq := hq.keep hu6
          replace hr := hr.keep hu6
          replace u := u.trans hu6
          clear hu6
          clear h2
          have kt := iSquare_bs (fun _ => by have := HS.out; omega) (by omega) hx hm
          rw [optN_yes (show 1 < Xm ∧ Xx < Xm from ⟨by omega, by omega⟩), ← HS.out, ← HVt.out] at kt
          replace kt := Lib.hid kt
          go_wp2_with fail
          with_reducible refine (kt.out).mono ?_
          rintro e v7 ⟨adt, cdt, rfl, ht, hu7⟩
          replace hx := hx.keep hu7
          replace hm := hm.keep hu7
          replace hp := hp.keep hu7
          replace hq := hq.keep hu7
          replace hr := hr.keep hu7
          replace hs := hs.keep hu7
          replace u := u.trans hu7
          clear hu7
          have kt := iIsOne_bs (fun _ => by have := HS.out; omega) (by omega) hp hm
          rw [optI_yes (show 1 < Xm ∧ Vp < Xm from ⟨by omega, by omega⟩), Hone.out] at kt
          replace kt := Lib.hid kt
          go_wp2_with fail
          with_reducible refine (kt.out).mono ?_
          rintro e v8 ⟨rfl, hu8⟩
          replace hx := hx.keep hu8
          replace hm := hm.keep hu8
          replace hp := hp.keep hu8
          replace hq := hq.keep hu8
          replace hr := hr.keep hu8
          replace hs := hs.keep hu8
          replace ht := ht.keep hu8
          replace u := u.trans hu8
          clear hu8
          go_wp2_with fail
          with_reducible refine (same_eq2 (by omega) hp hq E1.out).mono ?_
          rintro e v9 ⟨rfl, hu9⟩
          replace hx := hx.keep hu9
          replace hm := hm.keep hu9
          replace hp := hp.keep hu9
          replace hq := hq.keep hu9
          replace hr := hr.keep hu9
          replace hs := hs.keep hu9
          replace ht := ht.keep hu9
          replace u := u.trans hu9
          clear hu9
          have kv := set_bs (by have := HS.out; omega) (by omega) (by omega) (by omega) hx hm
          rw [← HS.out] at kv
          replace kv := Lib.hid kv
          go_wp2_with fail
          with_reducible refine (kv.out).mono ?_
          rintro e v10 ⟨adv, cdv, rfl, hv, hu10⟩
          replace hx := hx.keep hu10
          replace hm := hm.keep hu10
          replace hp := hp.keep hu10
          replace hq := hq.keep hu10
          replace hr := hr.keep hu10
          replace hs := hs.keep hu10
          replace ht := ht.keep hu10
          replace u := u.trans hu10
          clear hu10
          go_wp2_with fail
          with_reducible refine (same_eq2 (by omega) hr hv E2.out).mono ?_
          rintro e v11 ⟨rfl, hu11⟩
          replace hx := hx.keep hu11
          replace hm := hm.keep hu11
          replace hp := hp.keep hu11
          replace hq := hq.keep hu11
          replace hr := hr.keep hu11
          replace hs := hs.keep hu11
          replace ht := ht.keep hu11
          replace hv := hv.keep hu11
          replace u := u.trans hu11
          clear hu11
          go_wp2_with fail
          with_reducible refine (same_eq2 (by omega) hs ht E3.out).mono ?_
          rintro e v12 ⟨rfl, hu12⟩
          replace hx := hx.keep hu12
          replace hm := hm.keep hu12
          replace hp := hp.keep hu12
          replace hq := hq.keep hu12
          replace hr := hr.keep hu12
          replace hs := hs.keep hu12
          replace ht := ht.keep hu12
          replace hv := hv.keep hu12
          replace u := u.trans hu12
          clear hu12
          go_wp2_with fail
          go_ret
          exact ⟨rfl, u⟩

end Go.Proofs.Ytpojonfopoobpaa
