/-
  Laws with appends.
-/
import Derived.Test.YtpojonfopoobpaaByOf
namespace Go.Proofs.Ytpojonfopoobpaa
open Go.RowKit

set_option maxRecDepth 100000 in
set_option maxHeartbeats 4000000 in
theorem law_FnDivMod (ax : Option Addr) (nx cx : Nat) (fx : Nat → Nat) (y : Int) (w : World) (hfx : ∀ i, i < nx → fx i < 256) (hsx : Sl .u8 w ax nx cx fx) (bndy : -9223372036854775808 ≤ y ∧ y ≤ 9223372036854775807) :
    Calls Try.prog 13 #[.slice ax nx cx, .int .i64 y] w (Holds1 w) := by
  obtain ⟨Xx, HXx⟩ : ∃ X, Hid (X = be fx nx) := ⟨_, rfl⟩
  have hx : Bs w ax nx cx Xx := by rw [HXx.out]; exact .mk' hfx hsx
  clear hfx hsx HXx
  by_cases s0 : 2147483647 < nx
  · go_enter Try.func13, Try.ntmps13
    go_wp2_with fail
    go_ret
    exact ⟨rfl, .refl _ _⟩
  · skip
    by_cases t0 : 300 < nx
    · go_enter Try.func13, Try.ntmps13
      have u := Upd.refl (fun _ => False) w
      go_wp2_with fail
      with_reducible refine (long_yes t0 hx).mono ?_
      rintro e v1 ⟨rfl, hu1⟩
      replace hx := hx.keep hu1
      replace u := u.trans hu1
      clear hu1
      go_wp2_with fail
      go_ret
      exact ⟨rfl, u⟩
    · skip
      by_cases t1 : y < 2
      · go_enter Try.func13, Try.ntmps13
        have u := Upd.refl (fun _ => False) w
        go_wp2_with fail
        with_reducible refine (long_no t0 hx).mono ?_
        rintro e v1 ⟨rfl, hu1⟩
        replace hx := hx.keep hu1
        replace u := u.trans hu1
        clear hu1
        go_wp2_with fail
        go_ret
        exact ⟨rfl, u⟩
      · skip
        obtain ⟨d, rfl⟩ : ∃ d : Nat, y = (d : Int) := ⟨y.toNat, by omega⟩
        have hd2 : d ≤ 9223372036854775807 := by omega
        obtain ⟨S, HS⟩ : ∃ S, Hid (S = nb d) := ⟨_, rfl⟩
        have hS8 : S ≤ 8 := by rw [HS.out]; exact (nb_le_iff 8 d).2 (by omega)
        obtain ⟨R, HR⟩ : ∃ R, Hid (R = Xx % d) := ⟨_, rfl⟩
        have hRd : R < d := by rw [HR.out]; exact Nat.mod_lt _ (by omega)
        obtain ⟨T, HT⟩ : ∃ T, Hid (T = nb R) := ⟨_, rfl⟩
        have hT8 : T ≤ 8 := by rw [HT.out]; exact (nb_le_iff 8 R).2 (by omega)
        go_enter Try.func13, Try.ntmps13
        have u := Upd.refl (fun _ => False) w
        go_wp2_with fail
        with_reducible refine (long_no t0 hx).mono ?_
        rintro e v1 ⟨rfl, hu1⟩
        replace hx := hx.keep hu1
        replace u := u.trans hu1
        clear hu1
        have k1 := iDivShort_bs (by omega) hd2 (by omega) hx
        rw [← HR.out] at k1
        replace k1 := Lib.hid k1
        go_wp2_with fail
        with_reducible refine (k1.out).mono ?_
        rintro e v2 ⟨aq, cq, rfl, hq, hu2⟩
        replace hx := hx.keep hu2
        replace u := u.trans hu2
        clear hu2
        have kb := bytesOf_any d v2 hd2
        rw [← HS.out] at kb
        replace kb := Lib.hid kb
        go_wp2_with fail
        with_reducible refine (kb.out).mono ?_
        rintro e v3 ⟨ab, cb, rfl, hb, hu3⟩
        replace hx := hx.keep hu3
        replace hq := hq.keep hu3
        replace u := u.trans hu3
        clear hu3
        have km := iMod_bs (by omega) (by omega) hx hb
        rw [optN_yes (show 1 < d by omega), ← HS.out, ← HR.out] at km
        replace km := Lib.hid km
        go_wp2_with fail
        with_reducible refine (km.out).mono ?_
        rintro e v4 ⟨adm, cdm, rfl, hm, hu4⟩
        replace hx := hx.keep hu4
        replace hq := hq.keep hu4
        replace hb := hb.keep hu4
        replace u := u.trans hu4
        clear hu4
        have kr := iShiftRight_zero (by omega) hm
        rw [← HT.out] at kr
        replace kr := Lib.hid kr
        go_wp2_with fail
        with_reducible refine (kr.out).mono ?_
        rintro e v5 ⟨ar, cr, rfl, hr, hu5⟩
        replace hx := hx.keep hu5
        replace hq := hq.keep hu5
        replace hb := hb.keep hu5
        replace hm := hm.keep hu5
        replace u := u.trans hu5
        clear hu5
        have kk := bytesOf_any R v5 (by omega)
        rw [← HT.out] at kk
        replace kk := Lib.hid kk
        go_wp2_with fail
        with_reducible refine (kk.out).mono ?_
        rintro e v6 ⟨ak, ck, rfl, hk, hu6⟩
        replace hx := hx.keep hu6
        replace hq := hq.keep hu6
        replace hb := hb.keep hu6
        replace hm := hm.keep hu6
        replace hr := hr.keep hu6
        replace u := u.trans hu6
        clear hu6
        go_wp2_with fail
        with_reducible refine (same_eq (by omega) hr hk).mono ?_
        rintro e v7 ⟨rfl, hu7⟩
        replace hx := hx.keep hu7
        replace hq := hq.keep hu7
        replace hb := hb.keep hu7
        replace hm := hm.keep hu7
        replace hr := hr.keep hu7
        replace hk := hk.keep hu7
        replace u := u.trans hu7
        clear hu7
        go_wp2_with fail
        go_ret
        exact ⟨rfl, u⟩

theorem be_ends (n : Nat) : be (fun j => if j = n + 9 then 1 else if j = 0 then 1 else 0) (n + 10) = 256 ^ (n + 9) + 1 := by
  rw [show n + 10 = 1 + (n + 8 + 1) by omega, be_append, be_one, be_append, be_one]
  rw [show be (fun i => if 1 + i = n + 9 then 1 else if 1 + i = 0 then 1 else 0) (n + 8) = 0 from be_eq_zero.2 fun i hi => by rw [if_neg (by omega), if_neg (by omega)]]
  rw [if_neg (by omega), if_pos rfl, if_pos (by omega), Nat.one_mul, Nat.zero_mul, Nat.zero_add]

set_option maxRecDepth 100000 in
set_option maxHeartbeats 4000000 in
theorem law_FnDivBack (ax : Option Addr) (nx cx : Nat) (fx : Nat → Nat) (y : Int) (w : World) (hfx : ∀ i, i < nx → fx i < 256) (hsx : Sl .u8 w ax nx cx fx) (bndy : -9223372036854775808 ≤ y ∧ y ≤ 9223372036854775807) :
    Calls Try.prog 20 #[.slice ax nx cx, .int .i64 y] w (Holds1 w) := by
  obtain ⟨Xx, HXx⟩ : ∃ X, Hid (X = be fx nx) := ⟨_, rfl⟩
  have hx : Bs w ax nx cx Xx := by rw [HXx.out]; exact .mk' hfx hsx
  clear hfx hsx HXx
  by_cases s0 : 2147483647 < nx
  · go_enter Try.func20, Try.ntmps20
    go_wp2_with fail
    go_ret
    exact ⟨rfl, .refl _ _⟩
  · skip
    by_cases t0 : 280 < nx
    · go_enter Try.func20, Try.ntmps20
      have u := Upd.refl (fun _ => False) w
      go_wp2_with fail
      go_ret
      exact ⟨rfl, u⟩
    · skip
      by_cases t1 : y < 1
      · go_enter Try.func20, Try.ntmps20
        have u := Upd.refl (fun _ => False) w
        go_wp2_with fail
        go_ret
        exact ⟨rfl, u⟩
      · skip
        obtain ⟨d, rfl⟩ : ∃ d : Nat, y = (d : Int) := ⟨y.toNat, by omega⟩
        have hd2 : d ≤ 9223372036854775807 := by omega
        obtain ⟨S, HS⟩ : ∃ S, Hid (S = nb d) := ⟨_, rfl⟩
        have hS8 : S ≤ 8 := by rw [HS.out]; exact (nb_le_iff 8 d).2 (by omega)
        obtain ⟨R, HR⟩ : ∃ R, Hid (R = Xx % d) := ⟨_, rfl⟩
        have hRd : R < d := by rw [HR.out]; exact Nat.mod_lt _ (by omega)
        obtain ⟨T, HT⟩ : ∃ T, Hid (T = nb R) := ⟨_, rfl⟩
        have hT8 : T ≤ 8 := by rw [HT.out]; exact (nb_le_iff 8 R).2 (by omega)
        obtain ⟨Q, HQ⟩ : ∃ Q, Hid (Q = Xx / d) := ⟨_, rfl⟩
        have hQx : Q ≤ Xx := by rw [HQ.out]; exact Nat.div_le_self _ _
        have hPx : nb Q ≤ nx := Nat.le_trans (nb_mono hQx) hx.nb
        obtain ⟨M, HM⟩ : ∃ M : Nat, Hid (M = 256 ^ (nx + 9) + 1) := ⟨_, rfl⟩
        have hM8 : 256 ^ 8 ≤ M := by rw [HM.out]; exact Nat.le_trans (Nat.pow_le_pow_right (by omega) (by omega)) (Nat.le_succ _)
        have hMx : Xx < M := by rw [HM.out]; exact Nat.lt_succ_of_le (Nat.le_trans (Nat.le_of_lt hx.lt) (Nat.pow_le_pow_right (by omega) (by omega)))
        have hnM : Hid (nb M = nx + 10) := by
          have h1 : nb M ≤ nx + 10 := by
            have e : 256 ^ (nx + 10) = 256 ^ (nx + 9) * 256 := Nat.pow_succ 256 (nx + 9)
            have : 0 < 256 ^ (nx + 9) := Nat.pow_pos (by omega)
            rw [nb_le_iff, HM.out, e]
            omega
          have h2 : ¬ nb M ≤ nx + 9 := by rw [nb_le_iff, HM.out]; omega
          show _ = _
          omega
        have hdM : d < M := by omega
        have hRM : R < M := by omega
        have hQR : Q * d + R = Xx := by rw [HQ.out, HR.out]; exact Nat.div_add_mod' _ _
        have HQd : Hid (Q * d % M = Q * d) := Nat.mod_eq_of_lt (by omega)
        have HQR : Hid ((Q * d + R) % M = Xx) := by show _ = _; rw [hQR]; exact Nat.mod_eq_of_lt hMx
        have hQdM : Q * d < M := by omega
        have hQM : Q < M := by omega
        have hM1 : 1 < M := by omega
        clear hM8 hQR
        obtain ⟨Z, HZ⟩ : ∃ Z, Hid (Z = Q * d) := ⟨_, rfl⟩
        rw [← HZ.out] at HQd HQR hQdM
        go_enter Try.func20, Try.ntmps20
        have u := Upd.refl (fun _ => False) w
        have k1 := iDivShort_bs (by omega) hd2 (by omega) hx
        rw [← HR.out, ← HQ.out] at k1
        replace k1 := Lib.hid k1
        go_wp2_with fail
        with_reducible refine (k1.out).mono ?_
        rintro e v1 ⟨aq, cq, rfl, hq, hu1⟩
        replace hx := hx.keep hu1
        replace u := u.trans hu1
        clear hu1
        have ua : Upd0 v1 (v1.alloc (.cells (madeCells #[.int .u8 0] (nx + 10)) 5)) := (Upd.refl _ _).alloc _
        have hO := Own.made .u8 v1 (nx + 10) 5
        have hmk : (Instr.makeSlice 22 (.int .i64 ((nx : Int) + 10)) (.int .i64 ((nx : Int) + 10))).run Try.prog v1 = .ok (.slice (some ⟨v1.heap.size, 0, none⟩) (nx + 10) (nx + 10)) (v1.alloc (.cells (madeCells #[.int .u8 0] (nx + 10)) 5)) := make_u8 (nx + 10) (by omega) v1
        obtain ⟨wm, Hwm⟩ : ∃ wm, Hid (wm = v1.alloc (.cells (madeCells #[.int .u8 0] (nx + 10)) 5)) := ⟨_, rfl⟩
        rw [← Hwm.out] at ua hO hmk
        obtain ⟨B, HB⟩ : ∃ B, Hid (B = v1.heap.size) := ⟨_, rfl⟩
        rw [← HB.out] at hO hmk
        have hc1 := hO.cell 0 (by omega)
        have hf1 := hO.free 0 (by omega)
        have hO1 := hO.set (i := 0) (by omega) 1
        have hc2 : (wm.setCell ⟨B, 0, none⟩ (.int .u8 1)).cell? ⟨B, nx + 9, none⟩ = some (.int .u8 0) := by
          have h := hO1.cell (nx + 9) (by omega)
          rw [if_neg (by omega)] at h
          exact h
        have hf2 : (wm.setCell ⟨B, 0, none⟩ (.int .u8 1)).frozen? ⟨B, nx + 9, none⟩ = false := hO1.free (nx + 9) (by omega)
        have hf3 := hO.free (nx + 9) (by omega)
        have hO2 := hO1.set (i := nx + 9) (by omega) 1
        have hu2 : Upd0 v1 ((wm.setCell ⟨B, 0, none⟩ (.int .u8 1)).setCell ⟨B, nx + 9, none⟩ (.int .u8 1)) := (ua.setCell _ _ (fun h => by have := HB.out; simp at h; omega)).setCell _ _ (fun h => by have := HB.out; simp at h; omega)
        have hm : Bs ((wm.setCell ⟨B, 0, none⟩ (.int .u8 1)).setCell ⟨B, nx + 9, none⟩ (.int .u8 1)) (some ⟨B, 0, none⟩) (nx + 10) (nx + 10) M := by
          have h := hO2.bs (Nat.le_refl _) (fun i _ => by (try dsimp only); split <;> (try split) <;> omega)
          rw [show be (fun j => if j = nx + 9 then 1 else if j = 0 then 1 else 0) (nx + 10) = M from by rw [HM.out]; exact be_ends nx] at h
          exact h
        clear hO hO1 hO2 ua
        go_wp2_with fail
        replace hx := hx.keep hu2
        replace hq := hq.keep hu2
        replace u := u.trans hu2
        clear hu2 hmk hc1 hf1 hc2 hf2 hf3
        have kb := fun w => bytesOf_any d w hd2
        rw [← HS.out] at kb
        replace kb := Lib.hid kb
        go_wp2_with fail
        with_reducible refine (kb.out _).mono ?_
        rintro e v2 ⟨ab, cb, rfl, hb, hu2⟩
        replace hx := hx.keep hu2
        replace hq := hq.keep hu2
        replace hm := hm.keep hu2
        replace u := u.trans hu2
        clear hu2
        have ka := iMul_bs (fun _ => by have := hnM.out; omega) (fun _ => by have := hnM.out; omega) (by omega) hq hb hm
        rw [optN_yes (show 1 < M ∧ Q < M ∧ d < M from ⟨by omega, by omega, by omega⟩), hnM.out, ← HZ.out, HQd.out] at ka
        replace ka := Lib.hid ka
        go_wp2_with fail
        with_reducible refine (ka.out).mono ?_
        rintro e v3 ⟨ada, cda, rfl, ha, hu3⟩
        replace hx := hx.keep hu3
        replace hq := hq.keep hu3
        replace hm := hm.keep hu3
        replace hb := hb.keep hu3
        replace u := u.trans hu3
        clear hu3
        have kk := bytesOf_any R v3 (by omega)
        rw [← HT.out] at kk
        replace kk := Lib.hid kk
        go_wp2_with fail
        with_reducible refine (kk.out).mono ?_
        rintro e v4 ⟨ak, ck, rfl, hk, hu4⟩
        replace hx := hx.keep hu4
        replace hq := hq.keep hu4
        replace hm := hm.keep hu4
        replace hb := hb.keep hu4
        replace ha := ha.keep hu4
        replace u := u.trans hu4
        clear hu4
        have kc := iAdd_bs (fun _ => by have := hnM.out; omega) (fun _ => by have := hnM.out; omega) (by omega) ha hk hm
        rw [optN_yes (show 1 < M ∧ Z < M ∧ R < M from ⟨by omega, by omega, by omega⟩), hnM.out, HQR.out] at kc
        replace kc := Lib.hid kc
        go_wp2_with fail
        with_reducible refine (kc.out).mono ?_
        rintro e v5 ⟨adc, cdc, rfl, hc, hu5⟩
        replace hx := hx.keep hu5
        replace hq := hq.keep hu5
        replace hm := hm.keep hu5
        replace hb := hb.keep hu5
        replace ha := ha.keep hu5
        replace hk := hk.keep hu5
        replace u := u.trans hu5
        clear hu5
        have kz := set_bs (by have := hnM.out; omega) (by omega) hM1 hMx hx hm
        rw [hnM.out] at kz
        replace kz := Lib.hid kz
        go_wp2_with fail
        with_reducible refine (kz.out).mono ?_
        rintro e v6 ⟨adz, cdz, rfl, hz, hu6⟩
        replace hx := hx.keep hu6
        replace hq := hq.keep hu6
        replace hm := hm.keep hu6
        replace hb := hb.keep hu6
        replace ha := ha.keep hu6
        replace hk := hk.keep hu6
        replace hc := hc.keep hu6
        replace u := u.trans hu6
        clear hu6
        go_wp2_with fail
        with_reducible refine (same_eq (by omega) hc hz).mono ?_
        rintro e v7 ⟨rfl, hu7⟩
        replace hx := hx.keep hu7
        replace hq := hq.keep hu7
        replace hm := hm.keep hu7
        replace hb := hb.keep hu7
        replace ha := ha.keep hu7
        replace hk := hk.keep hu7
        replace hc := hc.keep hu7
        replace hz := hz.keep hu7
        replace u := u.trans hu7
        clear hu7
        go_wp2_with fail
        go_ret
        exact ⟨by first | rfl | exact ret_bool (by simp), u⟩

set_option maxRecDepth 100000 in
set_option maxHeartbeats 4000000 in
theorem law_FnModByte (ax : Option Addr) (nx cx : Nat) (fx : Nat → Nat) (am : Option Addr) (nm cm : Nat) (fm : Nat → Nat) (w : World) (hfx : ∀ i, i < nx → fx i < 256) (hsx : Sl .u8 w ax nx cx fx) (hfm : ∀ i, i < nm → fm i < 256) (hsm : Sl .u8 w am nm cm fm) :
    Calls Try.prog 11 #[.slice ax nx cx, .slice am nm cm] w (Holds1 w) := by
  obtain ⟨Xx, HXx⟩ : ∃ X, Hid (X = be fx nx) := ⟨_, rfl⟩
  have hx : Bs w ax nx cx Xx := by rw [HXx.out]; exact .mk' hfx hsx
  clear hfx hsx HXx
  obtain ⟨Xm, HXm⟩ : ∃ X, Hid (X = be fm nm) := ⟨_, rfl⟩
  have hm : Bs w am nm cm Xm := by rw [HXm.out]; exact .mk' hfm hsm
  clear hfm hsm HXm
  by_cases s0 : 2147483647 < nx
  · go_enter Try.func11, Try.ntmps11
    go_wp2_with fail
    go_ret
    exact ⟨rfl, .refl _ _⟩
  · skip
    by_cases s1 : 2147483647 < nm
    · go_enter Try.func11, Try.ntmps11
      go_wp2_with fail
      go_ret
      exact ⟨rfl, .refl _ _⟩
    · skip
      by_cases t0 : 290 < nx
      · go_enter Try.func11, Try.ntmps11
        have u := Upd.refl (fun _ => False) w
        go_wp2_with fail
        go_ret
        exact ⟨rfl, u⟩
      · skip
        by_cases t1 : 300 < nm
        · go_enter Try.func11, Try.ntmps11
          have u := Upd.refl (fun _ => False) w
          go_wp2_with fail
          with_reducible refine (long_yes t1 hm).mono ?_
          rintro e v1 ⟨rfl, hu1⟩
          replace hx := hx.keep hu1
          replace hm := hm.keep hu1
          replace u := u.trans hu1
          clear hu1
          go_wp2_with fail
          go_ret
          exact ⟨rfl, u⟩
        · skip
          by_cases t2 : ¬ 1 < Xm
          · go_enter Try.func11, Try.ntmps11
            have u := Upd.refl (fun _ => False) w
            go_wp2_with fail
            with_reducible refine (long_no t1 hm).mono ?_
            rintro e v1 ⟨rfl, hu1⟩
            replace hx := hx.keep hu1
            replace hm := hm.keep hu1
            replace u := u.trans hu1
            clear hu1
            go_wp2_with fail
            with_reducible refine (sModulusSize_no (by omega) hm t2).mono ?_
            rintro e v2 ⟨rfl, hu2⟩
            replace hx := hx.keep hu2
            replace hm := hm.keep hu2
            replace u := u.trans hu2
            clear hu2
            go_wp2_with fail
            go_ret
            exact ⟨rfl, u⟩
          · skip
            obtain ⟨S, HS⟩ : ∃ S, Hid (S = nb Xm) := ⟨_, rfl⟩
            have hSb : S ≤ 300 := by rw [HS.out]; exact Nat.le_trans hm.nb (by omega)
            obtain ⟨V, HV⟩ : ∃ V, Hid (V = Xx * 256 % Xm) := ⟨_, rfl⟩
            obtain ⟨A, HA⟩ : ∃ V, Hid (V = Xx % Xm) := ⟨_, rfl⟩
            have lA : A < Xm := by rw [HA.out]; exact Nat.mod_lt _ (by omega)
            obtain ⟨C, HC⟩ : ∃ V, Hid (V = (1 * 256 + 0) % Xm) := ⟨_, rfl⟩
            have lC : C < Xm := by rw [HC.out]; exact Nat.mod_lt _ (by omega)
            have HAC : Hid (A * C % Xm = V) := by show _ = _; rw [HA.out, HC.out, HV.out, ← Nat.mul_mod]
            go_enter Try.func11, Try.ntmps11
            have u := Upd.refl (fun _ => False) w
            go_wp2_with fail
            with_reducible refine (long_no t1 hm).mono ?_
            rintro e v1 ⟨rfl, hu1⟩
            replace hx := hx.keep hu1
            replace hm := hm.keep hu1
            replace u := u.trans hu1
            clear hu1
            go_wp2_with fail
            with_reducible refine (sModulusSize_yes (by omega) hm (by omega)).mono ?_
            rintro e v2 ⟨rfl, hu2⟩
            replace hx := hx.keep hu2
            replace hm := hm.keep hu2
            replace u := u.trans hu2
            clear hu2
            obtain ⟨g, hg, hs, hG⟩ := id hx
            replace hG := Lib.hid hG
            go_wp2_with (at_builtin; first | (refine wpList_append_sl rfl (.tmp 40) (.tmp 41) 22 rfl v2.heap.size 5 .u8 1 Try.underlying22 info_u8 (some ⟨v2.heap.size, 0, none⟩) 0 0 (fun _ => 0) rfl (by exact Grow.made .u8 _ v2 v2.heap.size #[] 0 (fun _ => 0) (Nat.le_refl _) (by simp [maxLen]) rfl) ax nx cx g rfl (by exact hs.keep ((Upd.refl _ _).alloc _)) (by omega) (by omega) (by simp) ?_; intro ay cy v3 hgr hur) | (refine wpList_append_ints rfl (.tmp 42) (.tmp 43) 22 rfl v2.heap.size 5 .u8 1 Try.underlying22 info_u8 ay cy nx g rfl (by exact hgr.copied.keep0 ((Upd.refl _ _).alloc _)) ⟨v3.heap.size, 0, none⟩ 1 1 (fun _ => 0) rfl (by exact Rd.one rfl) (by omega) (by omega) (by simp; have := hur.size; simp at this; omega) ?_; intro az cz v4 hgz huz))
            have hz : Bs v4 az (nx + 1) cz (Xx * 256) := hgz.byte0 hg hG.out
            have ua : Upd0 v2 v4 := ((((Upd.refl _ v2).alloc _).then hur (fun i hi h => by simp [Value.ownBlock] at h; omega)).alloc _).then huz (fun i hi h => by have := hgr.copied.block i h; omega)
            clear hgr hur hG hs hg g hgz huz
            replace hx := hx.keep ua
            replace hm := hm.keep ua
            replace u := u.trans ua
            clear ua
            have ka := iMod_bs (by omega) (by omega) hz hm
            rw [optN_yes (show 1 < Xm by omega), ← HS.out, ← HV.out] at ka
            replace ka := Lib.hid ka
            go_wp2_with fail
            with_reducible refine (ka.out).mono ?_
            rintro e v5 ⟨ada, cda, rfl, ha, hu5⟩
            replace hx := hx.keep hu5
            replace hm := hm.keep hu5
            replace hz := hz.keep hu5
            replace u := u.trans hu5
            clear hu5
            have kb := iMod_bs (by omega) (by omega) hx hm
            rw [optN_yes (show 1 < Xm by omega), ← HS.out, ← HA.out] at kb
            replace kb := Lib.hid kb
            go_wp2_with fail
            with_reducible refine (kb.out).mono ?_
            rintro e v6 ⟨adb, cdb, rfl, hb, hu6⟩
            replace hx := hx.keep hu6
            replace hm := hm.keep hu6
            replace hz := hz.keep hu6
            replace ha := ha.keep hu6
            replace u := u.trans hu6
            clear hu6
            go_wp2_with fail
            have ua : Upd0 v6 (v6.alloc (.cells #[.int .u8 1, .int .u8 0] 5)) := (Upd.refl _ _).alloc _
            have h10 : Bs (v6.alloc (.cells #[.int .u8 1, .int .u8 0] 5)) (some ⟨v6.heap.size, 0, none⟩) 2 2 (1 * 256 + 0) := Bs.lit2 v6 1 0 (by omega) (by omega) 5
            replace hx := hx.keep ua
            replace hm := hm.keep ua
            replace hz := hz.keep ua
            replace ha := ha.keep ua
            replace hb := hb.keep ua
            replace u := u.trans ua
            clear ua
            have kc := iMod_bs (by omega) (by omega) h10 hm
            rw [optN_yes (show 1 < Xm by omega), ← HS.out, ← HC.out] at kc
            replace kc := Lib.hid kc
            go_wp2_with fail
            with_reducible refine (kc.out).mono ?_
            rintro e v7 ⟨adc, cdc, rfl, hc, hu7⟩
            replace hx := hx.keep hu7
            replace hm := hm.keep hu7
            replace hz := hz.keep hu7
            replace ha := ha.keep hu7
            replace hb := hb.keep hu7
            replace u := u.trans hu7
            clear hu7
            clear h10
            have kd := iMul_bs (fun _ => by have := HS.out; omega) (fun _ => by have := HS.out; omega) (by omega) hb hc hm
            rw [optN_yes (show 1 < Xm ∧ A < Xm ∧ C < Xm from ⟨by omega, by omega, by omega⟩), ← HS.out, HAC.out] at kd
            replace kd := Lib.hid kd
            go_wp2_with fail
            with_reducible refine (kd.out).mono ?_
            rintro e v8 ⟨add, cdd, rfl, hd, hu8⟩
            replace hx := hx.keep hu8
            replace hm := hm.keep hu8
            replace hz := hz.keep hu8
            replace ha := ha.keep hu8
            replace hb := hb.keep hu8
            replace hc := hc.keep hu8
            replace u := u.trans hu8
            clear hu8
            go_wp2_with fail
            with_reducible refine (same_eq (by omega) ha hd).mono ?_
            rintro e v9 ⟨rfl, hu9⟩
            replace hx := hx.keep hu9
            replace hm := hm.keep hu9
            replace hz := hz.keep hu9
            replace ha := ha.keep hu9
            replace hb := hb.keep hu9
            replace hc := hc.keep hu9
            replace hd := hd.keep hu9
            replace u := u.trans hu9
            clear hu9
            go_wp2_with fail
            go_ret
            exact ⟨rfl, u⟩

set_option maxRecDepth 100000 in
set_option maxHeartbeats 4000000 in
theorem law_FnPadding (ax : Option Addr) (nx cx : Nat) (fx : Nat → Nat) (ay : Option Addr) (ny cy : Nat) (fy : Nat → Nat) (am : Option Addr) (nm cm : Nat) (fm : Nat → Nat) (z : Int) (w : World) (hfx : ∀ i, i < nx → fx i < 256) (hsx : Sl .u8 w ax nx cx fx) (hfy : ∀ i, i < ny → fy i < 256) (hsy : Sl .u8 w ay ny cy fy) (hfm : ∀ i, i < nm → fm i < 256) (hsm : Sl .u8 w am nm cm fm) (bndz : -9223372036854775808 ≤ z ∧ z ≤ 9223372036854775807) :
    Calls Try.prog 10 #[.slice ax nx cx, .slice ay ny cy, .slice am nm cm, .int .i64 z] w (Holds1 w) := by
  obtain ⟨Xx, HXx⟩ : ∃ X, Hid (X = be fx nx) := ⟨_, rfl⟩
  have hx : Bs w ax nx cx Xx := by rw [HXx.out]; exact .mk' hfx hsx
  clear hfx hsx HXx
  obtain ⟨Xy, HXy⟩ : ∃ X, Hid (X = be fy ny) := ⟨_, rfl⟩
  have hy : Bs w ay ny cy Xy := by rw [HXy.out]; exact .mk' hfy hsy
  clear hfy hsy HXy
  obtain ⟨Xm, HXm⟩ : ∃ X, Hid (X = be fm nm) := ⟨_, rfl⟩
  have hm : Bs w am nm cm Xm := by rw [HXm.out]; exact .mk' hfm hsm
  clear hfm hsm HXm
  by_cases s0 : 2147483647 < nx
  · go_enter Try.func10, Try.ntmps10
    go_wp2_with fail
    go_ret
    exact ⟨rfl, .refl _ _⟩
  · skip
    by_cases s1 : 2147483647 < ny
    · go_enter Try.func10, Try.ntmps10
      go_wp2_with fail
      go_ret
      exact ⟨rfl, .refl _ _⟩
    · skip
      by_cases s2 : 2147483647 < nm
      · go_enter Try.func10, Try.ntmps10
        go_wp2_with fail
        go_ret
        exact ⟨rfl, .refl _ _⟩
      · skip
        by_cases t0 : ¬ (nm ≤ 300 ∧ nx ≤ 300 ∧ nx ≤ nb Xm ∧ 1 < Xm ∧ Xx < Xm)
        · go_enter Try.func10, Try.ntmps10
          have u := Upd.refl (fun _ => False) w
          go_wp2_with fail
          with_reducible refine (in_no t0 hx hm).mono ?_
          rintro e v1 ⟨rfl, hu1⟩
          replace hx := hx.keep hu1
          replace hy := hy.keep hu1
          replace hm := hm.keep hu1
          replace u := u.trans hu1
          clear hu1
          go_wp2_with fail
          go_ret
          exact ⟨rfl, u⟩
        · skip
          by_cases t1 : ¬ (nm ≤ 300 ∧ ny ≤ 300 ∧ ny ≤ nb Xm ∧ 1 < Xm ∧ Xy < Xm)
          · go_enter Try.func10, Try.ntmps10
            have u := Upd.refl (fun _ => False) w
            go_wp2_with fail
            with_reducible refine (in_yes t0 hx hm).mono ?_
            rintro e v1 ⟨rfl, hu1⟩
            replace hx := hx.keep hu1
            replace hy := hy.keep hu1
            replace hm := hm.keep hu1
            replace u := u.trans hu1
            clear hu1
            go_wp2_with fail
            with_reducible refine (in_no t1 hy hm).mono ?_
            rintro e v2 ⟨rfl, hu2⟩
            replace hx := hx.keep hu2
            replace hy := hy.keep hu2
            replace hm := hm.keep hu2
            replace u := u.trans hu2
            clear hu2
            go_wp2_with fail
            go_ret
            exact ⟨rfl, u⟩
          · skip
            by_cases t2 : z < 0
            · go_enter Try.func10, Try.ntmps10
              have u := Upd.refl (fun _ => False) w
              go_wp2_with fail
              with_reducible refine (in_yes t0 hx hm).mono ?_
              rintro e v1 ⟨rfl, hu1⟩
              replace hx := hx.keep hu1
              replace hy := hy.keep hu1
              replace hm := hm.keep hu1
              replace u := u.trans hu1
              clear hu1
              go_wp2_with fail
              with_reducible refine (in_yes t1 hy hm).mono ?_
              rintro e v2 ⟨rfl, hu2⟩
              replace hx := hx.keep hu2
              replace hy := hy.keep hu2
              replace hm := hm.keep hu2
              replace u := u.trans hu2
              clear hu2
              go_wp2_with fail
              go_ret
              exact ⟨rfl, u⟩
            · skip
              by_cases t3 : 20 < z
              · go_enter Try.func10, Try.ntmps10
                have u := Upd.refl (fun _ => False) w
                go_wp2_with fail
                with_reducible refine (in_yes t0 hx hm).mono ?_
                rintro e v1 ⟨rfl, hu1⟩
                replace hx := hx.keep hu1
                replace hy := hy.keep hu1
                replace hm := hm.keep hu1
                replace u := u.trans hu1
                clear hu1
                go_wp2_with fail
                with_reducible refine (in_yes t1 hy hm).mono ?_
                rintro e v2 ⟨rfl, hu2⟩
                replace hx := hx.keep hu2
                replace hy := hy.keep hu2
                replace hm := hm.keep hu2
                replace u := u.trans hu2
                clear hu2
                go_wp2_with fail
                go_ret
                exact ⟨rfl, u⟩
              · skip
                by_cases t4 : 270 < nm
                · go_enter Try.func10, Try.ntmps10
                  have u := Upd.refl (fun _ => False) w
                  go_wp2_with fail
                  with_reducible refine (in_yes t0 hx hm).mono ?_
                  rintro e v1 ⟨rfl, hu1⟩
                  replace hx := hx.keep hu1
                  replace hy := hy.keep hu1
                  replace hm := hm.keep hu1
                  replace u := u.trans hu1
                  clear hu1
                  go_wp2_with fail
                  with_reducible refine (in_yes t1 hy hm).mono ?_
                  rintro e v2 ⟨rfl, hu2⟩
                  replace hx := hx.keep hu2
                  replace hy := hy.keep hu2
                  replace hm := hm.keep hu2
                  replace u := u.trans hu2
                  clear hu2
                  go_wp2_with fail
                  go_ret
                  exact ⟨rfl, u⟩
                · skip
                  obtain ⟨z0, rfl⟩ : ∃ z0 : Nat, z = (z0 : Int) := ⟨z.toNat, by omega⟩
                  obtain ⟨S, HS⟩ : ∃ S, Hid (S = nb Xm) := ⟨_, rfl⟩
                  have hSb : S ≤ 300 := by rw [HS.out]; exact Nat.le_trans hm.nb (by omega)
                  obtain ⟨V, HV⟩ : ∃ V, Hid (V = Xx * Xy % Xm) := ⟨_, rfl⟩
                  obtain ⟨lb, Hlb⟩ : ∃ l, Hid (l = blen Xm) := ⟨_, rfl⟩
                  have hlb := hm.blen
                  rw [← Hlb.out] at hlb
                  have hq1 : (((S : Nat) : Int) == ((S : Nat) : Int)) = true := by simp
                  have hq2 : (((lb : Nat) : Int) == ((lb : Nat) : Int)) = true := by simp
                  go_enter Try.func10, Try.ntmps10
                  have u := Upd.refl (fun _ => False) w
                  go_wp2_with fail
                  with_reducible refine (in_yes t0 hx hm).mono ?_
                  rintro e v1 ⟨rfl, hu1⟩
                  replace hx := hx.keep hu1
                  replace hy := hy.keep hu1
                  replace hm := hm.keep hu1
                  replace u := u.trans hu1
                  clear hu1
                  go_wp2_with fail
                  with_reducible refine (in_yes t1 hy hm).mono ?_
                  rintro e v2 ⟨rfl, hu2⟩
                  replace hx := hx.keep hu2
                  replace hy := hy.keep hu2
                  replace hm := hm.keep hu2
                  replace u := u.trans hu2
                  clear hu2
                  have hmk := make_u8 z0 (by omega)
                  obtain ⟨g, hg, hs, hG⟩ := id hm
                  replace hG := Lib.hid hG
                  go_wp2_with (at_builtin; refine wpList_append_sl rfl (.tmp 57) (.tmp 58) 22 rfl v2.heap.size 5 .u8 1 Try.underlying22 info_u8 (some ⟨v2.heap.size, 0, none⟩) z0 z0 (fun _ => 0) rfl (by exact Grow.madeN .u8 _ v2 v2.heap.size z0 (Nat.le_refl _) (by omega)) am nm cm g rfl (by exact hs.keep ((Upd.refl _ _).alloc _)) (by omega) (by omega) (by simp) ?_; intro an cn v3 hgr hur)
                  have ua : Upd0 v2 v3 := ((Upd.refl _ _).alloc _).then hur (fun i hi h => by simp [Value.ownBlock] at h; omega)
                  have hn : Bs v3 an (z0 + nm) cn Xm := by
                    have hB := Grow.bs hgr (fun _ _ => by omega) hg
                    rw [be_eq_zero.2 (fun _ _ => rfl), Nat.zero_mul, Nat.zero_add, hG.out] at hB
                    exact hB
                  clear hgr hur hG hs hg g hmk
                  replace hx := hx.keep ua
                  replace hy := hy.keep ua
                  replace hm := hm.keep ua
                  replace u := u.trans ua
                  clear ua
                  have ka := iMul_bs (fun _ => by have := HS.out; omega) (fun _ => by have := HS.out; omega) (by omega) hx hy hm
                  rw [optN_yes (show 1 < Xm ∧ Xx < Xm ∧ Xy < Xm from ⟨by omega, by omega, by omega⟩), ← HS.out, ← HV.out] at ka
                  replace ka := Lib.hid ka
                  go_wp2_with fail
                  with_reducible refine (ka.out).mono ?_
                  rintro e v4 ⟨ada, cda, rfl, ha, hu4⟩
                  replace hx := hx.keep hu4
                  replace hy := hy.keep hu4
                  replace hm := hm.keep hu4
                  replace hn := hn.keep hu4
                  replace u := u.trans hu4
                  clear hu4
                  have kb := iMul_bs (fun _ => by have := HS.out; omega) (fun _ => by have := HS.out; omega) (by omega) hx hy hn
                  rw [optN_yes (show 1 < Xm ∧ Xx < Xm ∧ Xy < Xm from ⟨by omega, by omega, by omega⟩), ← HS.out, ← HV.out] at kb
                  replace kb := Lib.hid kb
                  go_wp2_with fail
                  with_reducible refine (kb.out).mono ?_
                  rintro e v5 ⟨adb, cdb, rfl, hb, hu5⟩
                  replace hx := hx.keep hu5
                  replace hy := hy.keep hu5
                  replace hm := hm.keep hu5
                  replace hn := hn.keep hu5
                  replace ha := ha.keep hu5
                  replace u := u.trans hu5
                  clear hu5
                  have kt := iModulusSize_yes (by omega) hm (by omega)
                  rw [← HS.out, ← Hlb.out] at kt
                  replace kt := Lib.hid kt
                  go_wp2_with fail
                  with_reducible refine (kt.out).mono ?_
                  rintro e v6 ⟨rfl, hu6⟩
                  replace hx := hx.keep hu6
                  replace hy := hy.keep hu6
                  replace hm := hm.keep hu6
                  replace hn := hn.keep hu6
                  replace ha := ha.keep hu6
                  replace hb := hb.keep hu6
                  replace u := u.trans hu6
                  clear hu6
                  have kt := iModulusSize_yes (by omega) hn (by omega)
                  rw [← HS.out, ← Hlb.out] at kt
                  replace kt := Lib.hid kt
                  go_wp2_with fail
                  with_reducible refine (kt.out).mono ?_
                  rintro e v7 ⟨rfl, hu7⟩
                  replace hx := hx.keep hu7
                  replace hy := hy.keep hu7
                  replace hm := hm.keep hu7
                  replace hn := hn.keep hu7
                  replace ha := ha.keep hu7
                  replace hb := hb.keep hu7
                  replace u := u.trans hu7
                  clear hu7
                  go_wp2_with fail
                  with_reducible refine (same_eq (by omega) ha hb).mono ?_
                  rintro e v8 ⟨rfl, hu8⟩
                  replace hx := hx.keep hu8
                  replace hy := hy.keep hu8
                  replace hm := hm.keep hu8
                  replace hn := hn.keep hu8
                  replace ha := ha.keep hu8
                  replace hb := hb.keep hu8
                  replace u := u.trans hu8
                  clear hu8
                  go_wp2_with fail
                  go_ret
                  exact ⟨by first | rfl | exact ret_bool (by simp), u⟩

end Go.Proofs.Ytpojonfopoobpaa
