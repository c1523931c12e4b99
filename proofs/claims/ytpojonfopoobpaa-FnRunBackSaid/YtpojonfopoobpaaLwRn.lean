/-
  The law FnRunBack.
-/
import Derived.Test.YtpojonfopoobpaaRunI
import Derived.Test.YtpojonfopoobpaaLwH
namespace Go.Proofs.Ytpojonfopoobpaa
open Go.RowKit

theorem Steps.lit2 {w : World} {a a' : Option Addr} {n n' c c' N N' : Nat} (h : Bs w a n c N) (h' : Bs w a' n' c' N') (z z' : Int) (t : Nat) :
    Steps (w.alloc (.cells #[.int .i64 z, .slice a n c, .int .i64 z', .slice a' n' c'] t)) (some ⟨w.heap.size, 0, none⟩) 2 (fun i => if i = 0 then z else z') (fun i => if i = 0 then n else n') (fun i => if i = 0 then N else N') := by
  intro i hi
  have ua : Upd0 w (w.alloc (.cells #[.int .i64 z, .slice a n c, .int .i64 z', .slice a' n' c'] t)) := (Upd.refl _ _).alloc _
  rcases (show i = 0 ∨ i = 1 by omega) with e | e <;> subst e
  · exact ⟨_, 0, a, c, rfl, by rw [World.cell?_alloc_new]; rfl, by rw [World.cell?_alloc_new]; rfl, h.keep ua⟩
  · exact ⟨_, 0, a', c', rfl, by rw [World.cell?_alloc_new]; rfl, by rw [World.cell?_alloc_new]; rfl, h'.keep ua⟩
theorem Steps.lit3 {w : World} {a a' a'' : Option Addr} {n n' n'' c c' c'' N N' N'' : Nat} (h : Bs w a n c N) (h' : Bs w a' n' c' N') (h'' : Bs w a'' n'' c'' N'') (z z' z'' : Int) (t : Nat) :
    Steps (w.alloc (.cells #[.int .i64 z, .slice a n c, .int .i64 z', .slice a' n' c', .int .i64 z'', .slice a'' n'' c''] t)) (some ⟨w.heap.size, 0, none⟩) 3 (fun i => if i = 0 then z else if i = 1 then z' else z'') (fun i => if i = 0 then n else if i = 1 then n' else n'') (fun i => if i = 0 then N else if i = 1 then N' else N'') := by
  intro i hi
  have ua : Upd0 w (w.alloc (.cells #[.int .i64 z, .slice a n c, .int .i64 z', .slice a' n' c', .int .i64 z'', .slice a'' n'' c''] t)) := (Upd.refl _ _).alloc _
  rcases (show i = 0 ∨ i = 1 ∨ i = 2 by omega) with e | e | e <;> subst e
  · exact ⟨_, 0, a, c, rfl, by rw [World.cell?_alloc_new]; rfl, by rw [World.cell?_alloc_new]; rfl, h.keep ua⟩
  · exact ⟨_, 0, a', c', rfl, by rw [World.cell?_alloc_new]; rfl, by rw [World.cell?_alloc_new]; rfl, h'.keep ua⟩
  · exact ⟨_, 0, a'', c'', rfl, by rw [World.cell?_alloc_new]; rfl, by rw [World.cell?_alloc_new]; rfl, h''.keep ua⟩
theorem step_add {M X A : Nat} (h : A < M) : stepN M X A 0 = some ((X + A) % M) := by unfold stepN stpN; rw [if_neg (by decide), if_pos h, if_pos rfl]
theorem step_sub {M X A : Nat} (h : A < M) : stepN M X A 1 = some ((X + M - A) % M) := by unfold stepN stpN; rw [if_neg (by decide), if_pos h, if_neg (by decide), if_pos rfl]
theorem step_mul {M X A : Nat} (h : A < M) : stepN M X A 2 = some (X * A % M) := by unfold stepN stpN; rw [if_neg (by decide), if_pos h, if_neg (by decide), if_neg (by decide), if_pos rfl]
theorem step_dbl {M X A : Nat} (h : A < M) : stepN M X A 3 = some ((X + X) % M) := by unfold stepN stpN; rw [if_neg (by decide), if_pos h, if_neg (by decide), if_neg (by decide), if_neg (by decide), if_pos rfl]
theorem run_back1 {M X Y : Nat} (hX : X < M) (hY : Y < M) : runN M (fun i => if i = 0 then 0 else 1) (fun i => if i = 0 then Y else Y) X 2 = some X := by
  have e0 : runN M (fun i => if i = 0 then 0 else 1) (fun i => if i = 0 then Y else Y) X 1 = some ((X + Y) % M) := (runN_some (k := 0) rfl).trans (step_add hY)
  refine (runN_some e0).trans ((step_sub hY).trans ?_)
  congr 1
  have R1 : RM M ((X + Y) % M) ((X : Int) + Y) := RM.addm rfl (.base _ _) (.base _ _)
  exact RM.done (Nat.mod_lt _ (by omega)) hX (RM.subm rfl (by omega) R1 (.base _ _)) (.base _ _) (by grind)
theorem run_back2 {M X Y Z : Nat} (hM : 1 < M) (hY : Y < M) (hZ : Z < M) (hi : Z * Y % M = 1) : runN M (fun i => if i = 0 then 2 else if i = 1 then 3 else 2) (fun i => if i = 0 then Y else if i = 1 then 0 else Z) X 3 = some ((X + X) % M) := by
  have e0 : runN M (fun i => if i = 0 then 2 else if i = 1 then 3 else 2) (fun i => if i = 0 then Y else if i = 1 then 0 else Z) X 1 = some (X * Y % M) := (runN_some (k := 0) rfl).trans (step_mul hY)
  have e1 : runN M (fun i => if i = 0 then 2 else if i = 1 then 3 else 2) (fun i => if i = 0 then Y else if i = 1 then 0 else Z) X 2 = some ((X * Y % M + X * Y % M) % M) := (runN_some (k := 1) e0).trans (step_dbl (show (0 : Nat) < M by omega))
  refine (runN_some e1).trans ((step_mul hZ).trans ?_)
  congr 1
  have h1 : (X * Y % M + X * Y % M) % M = (X + X) * Y % M := by rw [← Nat.add_mod, ← Nat.add_mul]
  rw [h1, Nat.mod_mul_mod, Nat.mul_assoc, Nat.mul_comm Y Z, Nat.mul_mod, hi, Nat.mul_one, Nat.mod_mod]

set_option maxRecDepth 100000 in
set_option maxHeartbeats 4000000 in
theorem law_FnRunBack (ax : Option Addr) (nx cx : Nat) (fx : Nat → Nat) (ay : Option Addr) (ny cy : Nat) (fy : Nat → Nat) (am : Option Addr) (nm cm : Nat) (fm : Nat → Nat) (w : World) (hfx : ∀ i, i < nx → fx i < 256) (hsx : Sl .u8 w ax nx cx fx) (hfy : ∀ i, i < ny → fy i < 256) (hsy : Sl .u8 w ay ny cy fy) (hfm : ∀ i, i < nm → fm i < 256) (hsm : Sl .u8 w am nm cm fm) :
    Calls Try.prog 3 #[.slice ax nx cx, .slice ay ny cy, .slice am nm cm] w (Holds1 w) := by
  obtain ⟨Xx, HXx⟩ : ∃ X, Hid (X = be fx nx) := ⟨_, rfl⟩
  have hx : Bs w ax nx cx Xx := by rw [HXx.out]; exact .mk' hfx hsx
  clear hfx hsx HXx
  obtain ⟨Xy, HXy⟩ : ∃ X, Hid (X = be fy ny) := ⟨_, rfl⟩
  have hy : Bs w ay ny cy Xy := by rw [HXy.out]; exact .mk' hfy hsy
  clear hfy hsy HXy
  obtain ⟨Xm, HXm⟩ : ∃ X, Hid (X = be fm nm) := ⟨_, rfl⟩
  have hm : Bs w am nm cm Xm := by rw [HXm.out]; exact .mk' hfm hsm
  clear hfm hsm HXm
  by_cases s0 : 2147483647 < nx
  · go_enter Try.func3, Try.ntmps3
    go_wp2_with fail
    go_ret
    exact ⟨rfl, .refl _ _⟩
  · skip
    by_cases s1 : 2147483647 < ny
    · go_enter Try.func3, Try.ntmps3
      go_wp2_with fail
      go_ret
      exact ⟨rfl, .refl _ _⟩
    · skip
      by_cases s2 : 2147483647 < nm
      · go_enter Try.func3, Try.ntmps3
        go_wp2_with fail
        go_ret
        exact ⟨rfl, .refl _ _⟩
      · skip
        by_cases t0 : ¬ (nm ≤ 300 ∧ nx ≤ 300 ∧ nx ≤ nb Xm ∧ 1 < Xm ∧ Xx < Xm)
        · go_enter Try.func3, Try.ntmps3
          have u := Upd.refl (fun _ => False) w
          go_wp2_with fail
          with_reducible refine (in_no t0 hx hm).mono ?_
          rintro e v1 ⟨rfl, hu1⟩
          replace hx := hx.keep hu1
          replace hy := hy.keep hu1
          replace hm := hm.keep hu1
          replace u := u.trans hu1
          clear hu1
          go_wp2_with fail
          go_ret
          exact ⟨rfl, u⟩
        · skip
          by_cases t1 : ¬ (nm ≤ 300 ∧ ny ≤ 300 ∧ ny ≤ nb Xm ∧ 1 < Xm ∧ Xy < Xm)
          · go_enter Try.func3, Try.ntmps3
            have u := Upd.refl (fun _ => False) w
            go_wp2_with fail
            with_reducible refine (in_yes t0 hx hm).mono ?_
            rintro e v1 ⟨rfl, hu1⟩
            replace hx := hx.keep hu1
            replace hy := hy.keep hu1
            replace hm := hm.keep hu1
            replace u := u.trans hu1
            clear hu1
            go_wp2_with fail
            with_reducible refine (in_no t1 hy hm).mono ?_
            rintro e v2 ⟨rfl, hu2⟩
            replace hx := hx.keep hu2
            replace hy := hy.keep hu2
            replace hm := hm.keep hu2
            replace u := u.trans hu2
            clear hu2
            go_wp2_with fail
            go_ret
            exact ⟨rfl, u⟩
          · skip
            obtain ⟨S, HS⟩ : ∃ S, Hid (S = nb Xm) := ⟨_, rfl⟩
            have hSb : S ≤ 300 := by rw [HS.out]; exact Nat.le_trans hm.nb (by omega)
            have hxS : nx ≤ S := by have := HS.out; omega
            have hyS : ny ≤ S := by have := HS.out; omega
            by_cases hg : Nat.gcd Xy Xm = 1
            · have HG := Lib.hid hg
              clear hg
              have HI : Hid (IsInv Xy Xm (invN Xy Xm)) := invN_is (by omega) (by omega) HG.out
              obtain ⟨Z, HZ⟩ : ∃ Z, Hid (Z = invN Xy Xm) := ⟨_, rfl⟩
              have hZ : Z < Xm := by rw [HZ.out]; exact HI.out.lt
              have HZ1 : Hid (Z * Xy % Xm = 1) := by show _ = _; rw [HZ.out, HI.out.eq]; exact Nat.mod_eq_of_lt (by omega)
              obtain ⟨V, HV⟩ : ∃ V, Hid (V = (Xx + Xx) % Xm) := ⟨_, rfl⟩
              go_enter Try.func3, Try.ntmps3
              have u := Upd.refl (fun _ => False) w
              go_wp2_with fail
              with_reducible refine (in_yes t0 hx hm).mono ?_
              rintro e v1 ⟨rfl, hu1⟩
              replace hx := hx.keep hu1
              replace hy := hy.keep hu1
              replace hm := hm.keep hu1
              replace u := u.trans hu1
              clear hu1
              go_wp2_with fail
              with_reducible refine (in_yes t1 hy hm).mono ?_
              rintro e v2 ⟨rfl, hu2⟩
              replace hx := hx.keep hu2
              replace hy := hy.keep hu2
              replace hm := hm.keep hu2
              replace u := u.trans hu2
              clear hu2
              go_wp2_with fail
              have ua : Upd0 v2 (v2.alloc (.cells #[.int .i64 0, .slice ay ny cy, .int .i64 1, .slice ay ny cy] 27)) := (Upd.refl _ _).alloc _
              have hs := Steps.lit2 hy hy 0 1 27
              have ka := iRun_yes (cs := 2) (by have := HS.out; omega) (by omega) (by omega) (hx.keep ua) (hm.keep ua) hs (fun i hi => by rcases (show i = 0 ∨ i = 1 by omega) with e | e <;> subst e <;> exact ⟨by decide, fun _ => by have := HS.out; show ny ≤ _; omega, by show ny ≤ _; omega⟩) (by omega) (by omega)
              rw [runO_some (run_back1 (by omega) (by omega)), ← HS.out] at ka
              replace ka := Lib.hid ka
              replace hx := hx.keep ua
              replace hy := hy.keep ua
              replace hm := hm.keep ua
              replace u := u.trans ua
              clear ua hs
              go_wp2_with fail
              with_reducible refine (ka.out).mono ?_
              rintro e v3 ⟨ada, cda, rfl, ha, hu3⟩
              replace hx := hx.keep hu3
              replace hy := hy.keep hu3
              replace hm := hm.keep hu3
              replace u := u.trans hu3
              clear hu3
              have kp := set_bs (by have := HS.out; omega) (by omega) (by omega) (by omega) hx hm
              rw [← HS.out] at kp
              replace kp := Lib.hid kp
              go_wp2_with fail
              with_reducible refine (kp.out).mono ?_
              rintro e v4 ⟨adp, cdp, rfl, hp, hu4⟩
              replace hx := hx.keep hu4
              replace hy := hy.keep hu4
              replace hm := hm.keep hu4
              replace ha := ha.keep hu4
              replace u := u.trans hu4
              clear hu4
              go_wp2_with fail
              with_reducible refine (same_eq (by omega) ha hp).mono ?_
              rintro e v5 ⟨rfl, hu5⟩
              replace hx := hx.keep hu5
              replace hy := hy.keep hu5
              replace hm := hm.keep hu5
              replace ha := ha.keep hu5
              replace hp := hp.keep hu5
              replace u := u.trans hu5
              clear hu5
              have kz := iInverse_bs (fun _ => by have := HS.out; omega) (by omega) hy hm
              rw [optN_yes (show 1 < Xm ∧ Xy < Xm ∧ Nat.gcd Xy Xm = 1 from ⟨by omega, by omega, HG.out⟩), ← HS.out, ← HZ.out] at kz
              replace kz := Lib.hid kz
              go_wp2_with fail
              with_reducible refine (kz.out).mono ?_
              rintro e v6 ⟨adz, cdz, rfl, hz, hu6⟩
              replace hx := hx.keep hu6
              replace hy := hy.keep hu6
              replace hm := hm.keep hu6
              replace ha := ha.keep hu6
              replace hp := hp.keep hu6
              replace u := u.trans hu6
              clear hu6
              go_wp2_with fail
              have ua : Upd0 v6 (v6.alloc (.cells #[.int .i64 2, .slice ay ny cy, .int .i64 3, .slice none 0 0, .int .i64 2, .slice adz S cdz] 27)) := (Upd.refl _ _).alloc _
              have hs := Steps.lit3 hy (Bs.emp _) hz 2 3 2 27
              have kb := iRun_yes (cs := 3) (by have := HS.out; omega) (by omega) (by omega) (hx.keep ua) (hm.keep ua) hs (fun i hi => by rcases (show i = 0 ∨ i = 1 ∨ i = 2 by omega) with e | e | e <;> subst e <;> exact ⟨by decide, fun _ => by have := HS.out; first | (show ny ≤ _; omega) | (show 0 ≤ _; omega) | (show S ≤ _; omega), by first | (show ny ≤ _; omega) | (show 0 ≤ _; omega) | (show S ≤ _; omega)⟩) (by omega) (by omega)
              rw [runO_some (run_back2 (by omega) (by omega) (by omega) HZ1.out), ← HS.out] at kb
              replace kb := Lib.hid kb
              replace hx := hx.keep ua
              replace hy := hy.keep ua
              replace hm := hm.keep ua
              replace ha := ha.keep ua
              replace hp := hp.keep ua
              replace hz := hz.keep ua
              replace u := u.trans ua
              clear ua hs
              go_wp2_with fail
              with_reducible refine (kb.out).mono ?_
              rintro e v7 ⟨adb, cdb, rfl, hb, hu7⟩
              replace hx := hx.keep hu7
              replace hy := hy.keep hu7
              replace hm := hm.keep hu7
              replace ha := ha.keep hu7
              replace hp := hp.keep hu7
              replace hz := hz.keep hu7
              replace u := u.trans hu7
              clear hu7
              rw [← HV.out] at hb
              have kd := iDouble_bs (fun _ => by have := HS.out; omega) (by omega) hx hm
              rw [optN_yes (show 1 < Xm ∧ Xx < Xm from ⟨by omega, by omega⟩), ← HS.out, ← HV.out] at kd
              replace kd := Lib.hid kd
              go_wp2_with fail
              with_reducible refine (kd.out).mono ?_
              rintro e v8 ⟨add, cdd, rfl, hd, hu8⟩
              replace hx := hx.keep hu8
              replace hy := hy.keep hu8
              replace hm := hm.keep hu8
              replace ha := ha.keep hu8
              replace hp := hp.keep hu8
              replace hz := hz.keep hu8
              replace hb := hb.keep hu8
              replace u := u.trans hu8
              clear hu8
              go_wp2_with fail
              with_reducible refine (same_eq (by omega) hb hd).mono ?_
              rintro e v9 ⟨rfl, hu9⟩
              replace hx := hx.keep hu9
              replace hy := hy.keep hu9
              replace hm := hm.keep hu9
              replace ha := ha.keep hu9
              replace hp := hp.keep hu9
              replace hz := hz.keep hu9
              replace hb := hb.keep hu9
              replace hd := hd.keep hu9
              replace u := u.trans hu9
              clear hu9
              go_wp2_with fail
              go_ret
              exact ⟨rfl, u⟩
            · have HG := Lib.hid hg
              clear hg
              go_enter Try.func3, Try.ntmps3
              have u := Upd.refl (fun _ => False) w
              go_wp2_with fail
              with_reducible refine (in_yes t0 hx hm).mono ?_
              rintro e v1 ⟨rfl, hu1⟩
              replace hx := hx.keep hu1
              replace hy := hy.keep hu1
              replace hm := hm.keep hu1
              replace u := u.trans hu1
              clear hu1
              go_wp2_with fail
              with_reducible refine (in_yes t1 hy hm).mono ?_
              rintro e v2 ⟨rfl, hu2⟩
              replace hx := hx.keep hu2
              replace hy := hy.keep hu2
              replace hm := hm.keep hu2
              replace u := u.trans hu2
              clear hu2
              go_wp2_with fail
              have ua : Upd0 v2 (v2.alloc (.cells #[.int .i64 0, .slice ay ny cy, .int .i64 1, .slice ay ny cy] 27)) := (Upd.refl _ _).alloc _
              have hs := Steps.lit2 hy hy 0 1 27
              have ka := iRun_yes (cs := 2) (by have := HS.out; omega) (by omega) (by omega) (hx.keep ua) (hm.keep ua) hs (fun i hi => by rcases (show i = 0 ∨ i = 1 by omega) with e | e <;> subst e <;> exact ⟨by decide, fun _ => by have := HS.out; show ny ≤ _; omega, by show ny ≤ _; omega⟩) (by omega) (by omega)
              rw [runO_some (run_back1 (by omega) (by omega)), ← HS.out] at ka
              replace ka := Lib.hid ka
              replace hx := hx.keep ua
              replace hy := hy.keep ua
              replace hm := hm.keep ua
              replace u := u.trans ua
              clear ua hs
              go_wp2_with fail
              with_reducible refine (ka.out).mono ?_
              rintro e v3 ⟨ada, cda, rfl, ha, hu3⟩
              replace hx := hx.keep hu3
              replace hy := hy.keep hu3
              replace hm := hm.keep hu3
              replace u := u.trans hu3
              clear hu3
              have kp := set_bs (by have := HS.out; omega) (by omega) (by omega) (by omega) hx hm
              rw [← HS.out] at kp
              replace kp := Lib.hid kp
              go_wp2_with fail
              with_reducible refine (kp.out).mono ?_
              rintro e v4 ⟨adp, cdp, rfl, hp, hu4⟩
              replace hx := hx.keep hu4
              replace hy := hy.keep hu4
              replace hm := hm.keep hu4
              replace ha := ha.keep hu4
              replace u := u.trans hu4
              clear hu4
              go_wp2_with fail
              with_reducible refine (same_eq (by omega) ha hp).mono ?_
              rintro e v5 ⟨rfl, hu5⟩
              replace hx := hx.keep hu5
              replace hy := hy.keep hu5
              replace hm := hm.keep hu5
              replace ha := ha.keep hu5
              replace hp := hp.keep hu5
              replace u := u.trans hu5
              clear hu5
              have kz := iInverse_bs (fun _ => by have := HS.out; omega) (by omega) hy hm
              rw [optN_no (fun h => HG.out h.2.2)] at kz
              replace kz := Lib.hid kz
              go_wp2_with fail
              with_reducible refine (kz.out).mono ?_
              rintro e v6 ⟨rfl, hu6⟩
              replace hx := hx.keep hu6
              replace hy := hy.keep hu6
              replace hm := hm.keep hu6
              replace ha := ha.keep hu6
              replace hp := hp.keep hu6
              replace u := u.trans hu6
              clear hu6
              go_wp2_with fail
              go_ret
              exact ⟨rfl, u⟩

end Go.Proofs.Ytpojonfopoobpaa
