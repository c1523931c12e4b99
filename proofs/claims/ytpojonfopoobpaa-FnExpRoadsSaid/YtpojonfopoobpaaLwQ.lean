/-
  The law FnExpRoads.
-/
import Derived.Test.YtpojonfopoobpaaByOf
import Derived.Test.YtpojonfopoobpaaReg
namespace Go.Proofs.Ytpojonfopoobpaa
open Go.RowKit

/-- Bytes of E in T bytes. -/
def RB (T E : Nat) (w : World) (v : Value) (w' : World) : Prop := ∃ a c, v = .slice a T c ∧ Bs w' a T c E ∧ Upd0 w w'
/-- A number and true. -/
def RE (S V : Nat) (w : World) (v : Value) (w' : World) : Prop := ∃ a c, v = .tuple #[.slice a S c, .bool true] ∧ Bs w' a S c V ∧ Upd0 w w'
/-- Behind the region. -/
def RoadsCut (w : World) (S V : Nat) (s b : Value) (w' : World) : Prop := ∃ a c, s = .slice a S c ∧ b = .bool true ∧ Bs w' a S c V ∧ Upd0 w w'
theorem roads_num {e : TypeId} {w : World} {base : Nat} {a : Option Addr} {c z T E : Nat} {g : Nat → Nat} (h : Grow .u8 e w base a c (z + T) (fun i => if i < z then 0 else g (i - z))) (hg : ∀ i, i < T → g i < 256) (hG : be g T = E) : Bs w a (z + T) c E := by
  have hB := Grow.bs (f := fun _ => 0) h (fun _ _ => by omega) hg
  rw [be_eq_zero.2 (fun _ _ => rfl), Nat.zero_mul, Nat.zero_add, hG] at hB
  exact hB

set_option maxRecDepth 100000 in
set_option maxHeartbeats 4000000 in
theorem law_FnExpRoads (ax : Option Addr) (nx cx : Nat) (fx : Nat → Nat) (e : Int) (z : Int) (am : Option Addr) (nm cm : Nat) (fm : Nat → Nat) (w : World) (hfx : ∀ i, i < nx → fx i < 256) (hsx : Sl .u8 w ax nx cx fx) (bnde : -9223372036854775808 ≤ e ∧ e ≤ 9223372036854775807) (bndz : -9223372036854775808 ≤ z ∧ z ≤ 9223372036854775807) (hfm : ∀ i, i < nm → fm i < 256) (hsm : Sl .u8 w am nm cm fm) :
    Calls Try.prog 9 #[.slice ax nx cx, .int .i64 e, .int .i64 z, .slice am nm cm] w (Holds1 w) := by
  obtain ⟨Xx, HXx⟩ : ∃ X, Hid (X = be fx nx) := ⟨_, rfl⟩
  have hx : Bs w ax nx cx Xx := by rw [HXx.out]; exact .mk' hfx hsx
  clear hfx hsx HXx
  obtain ⟨Xm, HXm⟩ : ∃ X, Hid (X = be fm nm) := ⟨_, rfl⟩
  have hm : Bs w am nm cm Xm := by rw [HXm.out]; exact .mk' hfm hsm
  clear hfm hsm HXm
  by_cases s0 : 2147483647 < nx
  · go_enter Try.func9, Try.ntmps9
    go_wp2_with fail
    go_ret
    exact ⟨rfl, .refl _ _⟩
  · skip
    by_cases s1 : 2147483647 < nm
    · go_enter Try.func9, Try.ntmps9
      go_wp2_with fail
      go_ret
      exact ⟨rfl, .refl _ _⟩
    · skip
      by_cases t0 : ¬ (nm ≤ 300 ∧ nx ≤ 300 ∧ nx ≤ nb Xm ∧ 1 < Xm ∧ Xx < Xm)
      · go_enter Try.func9, Try.ntmps9
        have u := Upd.refl (fun _ => False) w
        go_wp2_with fail
        with_reducible refine (in_no t0 hx hm).mono ?_
        rintro e v1 ⟨rfl, hu1⟩
        replace hx := hx.keep hu1
        replace hm := hm.keep hu1
        replace u := u.trans hu1
        clear hu1
        go_wp2_with fail
        go_ret
        exact ⟨rfl, u⟩
      · skip
        by_cases t1 : ¬ Xm % 2 = 1
        · go_enter Try.func9, Try.ntmps9
          have u := Upd.refl (fun _ => False) w
          go_wp2_with fail
          with_reducible refine (in_yes t0 hx hm).mono ?_
          rintro e v1 ⟨rfl, hu1⟩
          replace hx := hx.keep hu1
          replace hm := hm.keep hu1
          replace u := u.trans hu1
          clear hu1
          go_wp2_with fail
          with_reducible refine (odd_no (by omega) hm t1).mono ?_
          rintro e v2 ⟨rfl, hu2⟩
          replace hx := hx.keep hu2
          replace hm := hm.keep hu2
          replace u := u.trans hu2
          clear hu2
          go_wp2_with fail
          go_ret
          exact ⟨rfl, u⟩
        · skip
          by_cases t2 : e < 1
          · go_enter Try.func9, Try.ntmps9
            have u := Upd.refl (fun _ => False) w
            go_wp2_with fail
            with_reducible refine (in_yes t0 hx hm).mono ?_
            rintro e v1 ⟨rfl, hu1⟩
            replace hx := hx.keep hu1
            replace hm := hm.keep hu1
            replace u := u.trans hu1
            clear hu1
            go_wp2_with fail
            with_reducible refine (odd_yes (by omega) hm t1).mono ?_
            rintro e v2 ⟨rfl, hu2⟩
            replace hx := hx.keep hu2
            replace hm := hm.keep hu2
            replace u := u.trans hu2
            clear hu2
            go_wp2_with fail
            go_ret
            exact ⟨rfl, u⟩
          · skip
            by_cases t3 : z < 0
            · go_enter Try.func9, Try.ntmps9
              have u := Upd.refl (fun _ => False) w
              go_wp2_with fail
              with_reducible refine (in_yes t0 hx hm).mono ?_
              rintro e v1 ⟨rfl, hu1⟩
              replace hx := hx.keep hu1
              replace hm := hm.keep hu1
              replace u := u.trans hu1
              clear hu1
              go_wp2_with fail
              with_reducible refine (odd_yes (by omega) hm t1).mono ?_
              rintro e v2 ⟨rfl, hu2⟩
              replace hx := hx.keep hu2
              replace hm := hm.keep hu2
              replace u := u.trans hu2
              clear hu2
              go_wp2_with fail
              go_ret
              exact ⟨rfl, u⟩
            · skip
              by_cases t4 : 20 < z
              · go_enter Try.func9, Try.ntmps9
                have u := Upd.refl (fun _ => False) w
                go_wp2_with fail
                with_reducible refine (in_yes t0 hx hm).mono ?_
                rintro e v1 ⟨rfl, hu1⟩
                replace hx := hx.keep hu1
                replace hm := hm.keep hu1
                replace u := u.trans hu1
                clear hu1
                go_wp2_with fail
                with_reducible refine (odd_yes (by omega) hm t1).mono ?_
                rintro e v2 ⟨rfl, hu2⟩
                replace hx := hx.keep hu2
                replace hm := hm.keep hu2
                replace u := u.trans hu2
                clear hu2
                go_wp2_with fail
                go_ret
                exact ⟨rfl, u⟩
              · skip
                obtain ⟨z0, rfl⟩ : ∃ z0 : Nat, z = (z0 : Int) := ⟨z.toNat, by omega⟩
                obtain ⟨E, rfl⟩ : ∃ E : Nat, e = (E : Int) := ⟨e.toNat, by omega⟩
                have hE2 : E ≤ 9223372036854775807 := by omega
                obtain ⟨S, HS⟩ : ∃ S, Hid (S = nb Xm) := ⟨_, rfl⟩
                have hSb : S ≤ 300 := by rw [HS.out]; exact Nat.le_trans hm.nb (by omega)
                obtain ⟨V, HV⟩ : ∃ V, Hid (V = Xx ^ E % Xm) := ⟨_, rfl⟩
                obtain ⟨T, HT⟩ : ∃ T, Hid (T = nb E) := ⟨_, rfl⟩
                have hT8 : T ≤ 8 := by rw [HT.out]; exact (nb_le_iff 8 E).2 (by omega)
                go_enter Try.func9, Try.ntmps9
                have u := Upd.refl (fun _ => False) w
                go_wp2_with fail
                with_reducible refine (in_yes t0 hx hm).mono ?_
                rintro e v1 ⟨rfl, hu1⟩
                replace hx := hx.keep hu1
                replace hm := hm.keep hu1
                replace u := u.trans hu1
                clear hu1
                go_wp2_with fail
                with_reducible refine (odd_yes (by omega) hm t1).mono ?_
                rintro e v2 ⟨rfl, hu2⟩
                replace hx := hx.keep hu2
                replace hm := hm.keep hu2
                replace u := u.trans hu2
                clear hu2
                have ka := iExpShort_z (z := (E : Int)) rfl (fun _ => by have := HS.out; omega) (by omega) (by omega) (by omega) hx hm
                rw [optN_yes (show 1 < Xm ∧ Xx < Xm ∧ Xm % 2 = 1 from ⟨by omega, by omega, by omega⟩), ← HS.out, ← HV.out] at ka
                replace ka := Lib.hid ka
                go_wp2_with fail
                with_reducible refine (ka.out).mono ?_
                rintro e v3 ⟨ada, cda, rfl, ha, hu3⟩
                replace hx := hx.keep hu3
                replace hm := hm.keep hu3
                replace u := u.trans hu3
                clear hu3
                have kk := bytesOf_any E v3 hE2
                rw [← HT.out] at kk
                replace kk := Lib.hid kk
                go_wp2_with fail
                with_reducible refine (kk.out).mono ?_
                rintro e v4 ⟨ak, ck, rfl, hk, hu4⟩
                replace hx := hx.keep hu4
                replace hm := hm.keep hu4
                replace ha := ha.keep hu4
                replace u := u.trans hu4
                clear hu4
                have kb := iExp_bs (fun _ => by have := HS.out; omega) (by omega) (by omega) hx hk hm
                rw [optN_yes (show 1 < Xm ∧ Xx < Xm ∧ Xm % 2 = 1 from ⟨by omega, by omega, by omega⟩), ← HS.out, ← HV.out] at kb
                replace kb := Lib.hid kb
                go_wp2_with fail
                with_reducible refine (kb.out).mono ?_
                rintro e v5 ⟨adb, cdb, rfl, hb, hu5⟩
                replace hx := hx.keep hu5
                replace hm := hm.keep hu5
                replace ha := ha.keep hu5
                replace hk := hk.keep hu5
                replace u := u.trans hu5
                clear hu5
                have hmk := make_u8 z0 (by omega)
                have CB : ∀ w, Calls Try.prog 41 #[.int .i64 E] w fun e w' => ∃ v, e = .returned v ∧ RB T E w v w' := fun w => by
                  have k := bytesOf_any E w hE2
                  rw [← HT.out] at k
                  exact k.mono fun e w' ⟨a, c, h1, h2, h3⟩ => ⟨_, h1, a, c, rfl, h2, h3⟩
                have CE : ∀ wA, Upd0 v5 wA → ∀ ac cc, Bs wA ac (z0 + T) cc E → Calls Try.prog 42 #[.slice ax nx cx, .slice ac (z0 + T) cc, .slice am nm cm] wA fun e w' => ∃ v, e = .returned v ∧ RE S V wA v w' := fun wA u ac cc hc => by
                  have k := iExpSelf_bs (fun _ => by have := HS.out; omega) (by omega) (by omega) (hx.keep u) hc (hm.keep u)
                  rw [optN_yes (show 1 < Xm ∧ Xx < Xm ∧ Xm % 2 = 1 from ⟨by omega, by omega, by omega⟩), ← HS.out, ← HV.out] at k
                  exact k.mono fun e w' ⟨a, c, h1, h2, h3⟩ => ⟨_, h1, a, c, rfl, h2, h3⟩
                replace CB := Lib.hid CB
                replace CE := Lib.hid CE
                have hzW := u.size
                have hzT : z0 + T ≤ 1048576 := by omega
                have hz6 : z0 ≤ 1048576 := by omega
                go_upto_region 7 with fail
                go_cut [13, 14] (fun s b wx => RoadsCut v5 S V s b wx)
                case first =>
                  go_wp2_with fail
                  have ud : Upd0 v5 v5.drew := (Upd.refl _ _).drew
                  go_region_law (first | (refine step_call (F := 42) (by rfl) (by go_simp) kE.out ?_; rintro _ vE ⟨ae, ce, rfl, hsE, huE⟩) | (refine step_append_sl (by rfl) (.tmp 62) (.tmp 64) 22 (by rfl) v5.heap.size 5 .u8 1 Try.underlying22 info_u8 (some ⟨v5.heap.size, 0, none⟩) z0 z0 (fun _ => 0) (by rfl) (Grow.keep0 (Grow.madeN .u8 5 v5.drew v5.heap.size z0 (Nat.le_refl _) hz6) hur1) ar1 T cr1 g1 (by rfl) hs1 hzT (by omega) hb1 ?_; intro ac cc wA hgr hurA; have uA : Upd0 v5 wA := ((ud.alloc _).trans hur1).then hurA (fun i hi h => by simp [Value.ownBlock] at h; omega); have hcc := roads_num hgr hg1 hG1.out; have kE := CE.out wA uA ac cc hcc; replace kE := Lib.hid kE) | (refine step_append_sl (by rfl) (.tmp 62) (.tmp 64) 22 (by rfl) v5.heap.size 5 .u8 1 Try.underlying22 info_u8 (some ⟨vB2.heap.size, 0, none⟩) z0 z0 (fun _ => 0) (by rfl) (Grow.madeN .u8 5 vB2 v5.heap.size z0 hb2 hz6) ar2 T cr2 g2 (by rfl) (hs2.keep ((Upd.refl _ _).alloc _)) hzT (by omega) (Nat.le_trans hb2 ((Upd.refl (fun _ => False) vB2).alloc _).size) ?_; intro ac cc wA hgr hurA; have uA : Upd0 v5 wA := ((ud.trans hur2).alloc _).then hurA (fun i hi h => by simp [Value.ownBlock] at h; omega); have hcc := roads_num hgr hg2 hG2.out; have kE := CE.out wA uA ac cc hcc; replace kE := Lib.hid kE) | (refine step_call (F := 41) (w := v5.drew) (by rfl) (by go_simp) (CB.out _) ?_; rintro _ vB2 ⟨ar2, cr2, rfl, hr, hur2⟩; obtain ⟨g2, hg2, hs2, hG2⟩ := hr; replace hG2 := Lib.hid hG2; have hb2 := (ud.trans hur2).size) | (refine step_call (F := 41) (by rfl) (by go_simp) (CB.out _) ?_; rintro _ vB1 ⟨ar1, cr1, rfl, hr, hur1⟩; obtain ⟨g1, hg1, hs1, hG1⟩ := hr; replace hG1 := Lib.hid hG1; have hb1 := ((ud.alloc _).trans hur1).size))
                  all_goals (go_wp2_with fail; go_meet; exact ⟨ae, ce, rfl, rfl, hsE, uA.trans huE⟩)
                case rest =>
                  obtain ⟨ae, ce, rfl, rfl, hs, uc⟩ := hcut
                
                  replace hx := hx.keep uc
                  replace hm := hm.keep uc
                  replace ha := ha.keep uc
                  replace hk := hk.keep uc
                  replace hb := hb.keep uc
                  replace u := u.trans uc
                  clear uc
                  go_wp2_with fail
                  with_reducible refine (same_eq (by omega) ha hb).mono ?_
                  rintro e v6 ⟨rfl, hu6⟩
                  replace hx := hx.keep hu6
                  replace hm := hm.keep hu6
                  replace ha := ha.keep hu6
                  replace hk := hk.keep hu6
                  replace hb := hb.keep hu6
                  replace hs := hs.keep hu6
                  replace u := u.trans hu6
                  clear hu6
                  go_wp2_with fail
                  with_reducible refine (same_eq (by omega) hb hs).mono ?_
                  rintro e v7 ⟨rfl, hu7⟩
                  replace hx := hx.keep hu7
                  replace hm := hm.keep hu7
                  replace ha := ha.keep hu7
                  replace hk := hk.keep hu7
                  replace hb := hb.keep hu7
                  replace hs := hs.keep hu7
                  replace u := u.trans hu7
                  clear hu7
                  go_wp2_with fail
                  go_ret
                  exact ⟨rfl, u⟩

end Go.Proofs.Ytpojonfopoobpaa
