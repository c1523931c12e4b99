/-
  The laws FnExactRun, FnRunBack.
-/
import Derived.Test.YtpojonfopoobpaaGreatRunI
namespace Go.Proofs.YtpojonfopoobpaaGreat
open Go.RowKit

theorem zzFits2_yes {aa : Option Addr} {n c : Nat} {z : Int} {w : World} (h : n ≤ 2147483647) :
    Calls Tryz.prog 9 #[.agg #[.int .i64 z, .slice aa n c]] w fun e w' => e = .returned (.bool true) ∧ Upd0 w w' := by
  go_enter Tryz.func9, Tryz.ntmps9
  go_wp2
  go_ret
  exact ⟨rfl, (Upd.refl _ _).alloc _⟩
theorem zzFits2_no {aa : Option Addr} {n c : Nat} {z : Int} {w : World} (h : ¬ n ≤ 2147483647) :
    Calls Tryz.prog 9 #[.agg #[.int .i64 z, .slice aa n c]] w fun e w' => e = .returned (.bool false) ∧ Upd0 w w' := by
  have h' : 2147483647 < n := by omega
  go_enter Tryz.func9, Tryz.ntmps9
  go_wp2
  go_ret
  exact ⟨rfl, (Upd.refl _ _).alloc _⟩
theorem zzFits1_big {st : Option Addr} {L c : Nat} {w : World} (h : 2147483647 < L) :
    Calls Tryz.prog 4 #[.slice st L c] w fun e w' => e = .returned (.bool false) ∧ w = w' := by
  go_enter Tryz.func4, Tryz.ntmps4
  go_wp2
  go_ret
  exact ⟨rfl, rfl⟩
set_option maxRecDepth 100000 in
set_option maxHeartbeats 1000000 in
theorem zzFits1_no {st : Option Addr} {L c : Nat} {K : Nat → Int} {na A : Nat → Nat} {w : World} (hst : Steps w st L K na A) (hL : L ≤ 2147483647) (h : ¬ ∀ i, i < L → na i ≤ 2147483647) :
    Calls Tryz.prog 4 #[.slice st L c] w fun e w' => e = .returned (.bool false) ∧ Upd0 w w' := by
  replace h := Lib.hid h
  go_enter Tryz.func4, Tryz.ntmps4
  go_wp2
  go_loopg [2, 10] L (fun k r i wr => ∃ j : Nat, j + k = L ∧ i = .int .i64 (j : Nat) ∧ Hid (∀ t, t < j → na t ≤ 2147483647) ∧ Upd0 w wr)
  case atStart => exact ⟨0, by omega, rfl, fun t ht => by omega, .refl _ _⟩
  case round =>
    obtain ⟨j, hj, rfl, ha, hu⟩ := hrel
    by_cases hlt : j < L
    · obtain ⟨sb, off, aa, ca, hst', hc0, hc1, hB⟩ := (hst.keep hu) j hlt
      subst hst'
      by_cases hn : na j ≤ 2147483647
      · have hall : Hid (∀ t, t < j + 1 → na t ≤ 2147483647) := fun t ht => by
          rcases Nat.lt_or_ge t j with h1 | h1
          · exact ha.out t h1
          · obtain rfl : t = j := by omega
            exact hn
        go_wp2_with fail
        refine at_world (fun W => Upd0 wr W) (boxed _ _ _ _).1 ?_
        rintro W uW
        with_reducible refine (zzFits2_yes hn).mono ?_
        rintro e w1 ⟨rfl, hu1⟩
        have hu2 := (hu.trans uW).trans hu1
        go_wp2_with fail
        go_roundg (L - (j + 1))
        case measure => omega
        case rel => exact ⟨j + 1, by omega, by go_num, hall, hu2⟩
      · go_wp2_with fail
        refine at_world (fun W => Upd0 wr W) (boxed _ _ _ _).1 ?_
        rintro W uW
        with_reducible refine (zzFits2_no hn).mono ?_
        rintro e w1 ⟨rfl, hu1⟩
        have hu2 := (hu.trans uW).trans hu1
        go_wp2_with fail
        go_ret
        exact ⟨rfl, hu2⟩
    · obtain rfl : j = L := by omega
      exact absurd ha.out h.out
set_option maxRecDepth 100000 in
set_option maxHeartbeats 1000000 in
theorem zzFits1_yes {st : Option Addr} {L c : Nat} {K : Nat → Int} {na A : Nat → Nat} {w : World} (hst : Steps w st L K na A) (hL : L ≤ 2147483647) (h : ∀ i, i < L → na i ≤ 2147483647) :
    Calls Tryz.prog 4 #[.slice st L c] w fun e w' => e = .returned (.bool true) ∧ Upd0 w w' := by
  replace h := Lib.hid h
  go_enter Tryz.func4, Tryz.ntmps4
  go_wp2
  go_loopg [2, 10] L (fun k r i wr => ∃ j : Nat, j + k = L ∧ i = .int .i64 (j : Nat) ∧ Upd0 w wr)
  case atStart => exact ⟨0, by omega, rfl, .refl _ _⟩
  case round =>
    obtain ⟨j, hj, rfl, hu⟩ := hrel
    by_cases hlt : j < L
    · obtain ⟨sb, off, aa, ca, hst', hc0, hc1, hB⟩ := (hst.keep hu) j hlt
      subst hst'
      have hn := h.out j hlt
      go_wp2_with fail
      refine at_world (fun W => Upd0 wr W) (boxed _ _ _ _).1 ?_
      rintro W uW
      with_reducible refine (zzFits2_yes hn).mono ?_
      rintro e w1 ⟨rfl, hu1⟩
      have hu2 := (hu.trans uW).trans hu1
      go_wp2_with fail
      go_roundg (L - (j + 1))
      case measure => omega
      case rel => exact ⟨j + 1, by omega, by go_num, hu2⟩
    · obtain rfl : j = L := by omega
      go_wp2_with fail
      go_ret
      exact ⟨rfl, hu⟩
/-- The law takes the step. -/
def StepOk (nm M n : Nat) (z : Int) : Prop := ¬ (300 < nm ∨ 300 < n ∨ (1 < M ∧ nb M < n)) ∧ ¬ (40 < n ∧ z = 5) ∧ z ≠ 8
set_option maxRecDepth 100000 in
set_option maxHeartbeats 4000000 in
theorem law_FnExactRun (ax : Option Addr) (nx cx : Nat) (fx : Nat → Nat) (am : Option Addr) (nm cm : Nat) (fm : Nat → Nat) (st : Option Addr) (L cs : Nat) (K : Nat → Int) (na A : Nat → Nat) (w : World) (hfx : ∀ i, i < nx → fx i < 256) (hsx : Sl .u8 w ax nx cx fx) (hfm : ∀ i, i < nm → fm i < 256) (hsm : Sl .u8 w am nm cm fm) (hst : Steps w st L K na A) :
    Calls Tryz.prog 3 #[.slice ax nx cx, .slice am nm cm, .slice st L cs] w (Holds1 w) := by
  obtain ⟨X, HX⟩ : ∃ X, Hid (X = be fx nx) := ⟨_, rfl⟩
  have hx : Bs w ax nx cx X := by rw [HX.out]; exact .mk' hfx hsx
  obtain ⟨M, HM⟩ : ∃ X, Hid (X = be fm nm) := ⟨_, rfl⟩
  have hm : Bs w am nm cm M := by rw [HM.out]; exact .mk' hfm hsm
  clear hfx hsx hfm hsm HX HM
  by_cases s0 : 2147483647 < nx
  · go_enter Tryz.func3, Tryz.ntmps3
    go_wp2_with fail
    go_ret
    exact ⟨rfl, .refl _ _⟩
  by_cases s1 : 2147483647 < nm
  · go_enter Tryz.func3, Tryz.ntmps3
    go_wp2_with fail
    go_ret
    exact ⟨rfl, .refl _ _⟩
  by_cases s2 : 2147483647 < L
  · go_enter Tryz.func3, Tryz.ntmps3
    go_wp2_with fail
    with_reducible refine (zzFits1_big s2).mono ?_
    rintro e w1 ⟨rfl, rfl⟩
    go_wp2_with fail
    go_ret
    exact ⟨rfl, .refl _ _⟩
  by_cases s3 : ∀ i, i < L → na i ≤ 2147483647
  case neg =>
    replace s3 := Lib.hid s3
    go_enter Tryz.func3, Tryz.ntmps3
    go_wp2_with fail
    with_reducible refine (zzFits1_no hst (by omega) s3.out).mono ?_
    rintro e w1 ⟨rfl, hz1⟩
    go_wp2_with fail
    go_ret
    exact ⟨rfl, hz1⟩
  have S3 := Lib.hid s3
  clear s3
  by_cases t0 : 300 < nm ∨ 300 < nx ∨ (1 < M ∧ nb M < nx)
  · go_enter Tryz.func3, Tryz.ntmps3
    go_wp2_with fail
    with_reducible refine (zzFits1_yes hst (by omega) S3.out).mono ?_
    rintro e w0 ⟨rfl, hz1⟩
    go_wp2_with fail
    with_reducible refine (beyond_yes t0 (hx.keep hz1) (hm.keep hz1)).mono ?_
    rintro e w1 ⟨rfl, hu1⟩
    go_wp2_with fail
    go_ret
    exact ⟨rfl, hz1.trans hu1⟩
  by_cases t1 : 40 < L
  · go_enter Tryz.func3, Tryz.ntmps3
    go_wp2_with fail
    with_reducible refine (zzFits1_yes hst (by omega) S3.out).mono ?_
    rintro e w0 ⟨rfl, hz1⟩
    go_wp2_with fail
    with_reducible refine (beyond_no t0 (hx.keep hz1) (hm.keep hz1)).mono ?_
    rintro e w1 ⟨rfl, hu1⟩
    go_wp2_with fail
    go_ret
    exact ⟨rfl, hz1.trans hu1⟩
  have T0 := Lib.hid t0
  have hnm : nm ≤ 300 := by omega
  have hnx : nx ≤ 300 := by omega
  have hnX : 1 < M → nx ≤ nb M := by omega
  go_enter Tryz.func3, Tryz.ntmps3
  go_wp2_with fail
  with_reducible refine (zzFits1_yes hst (by omega) S3.out).mono ?_
  rintro e w0 ⟨rfl, hz1⟩
  go_wp2_with fail
  with_reducible refine (beyond_no T0.out (hx.keep hz1) (hm.keep hz1)).mono ?_
  rintro e w1 ⟨rfl, hu10⟩
  have hu1 := hz1.trans hu10
  clear hu10 hz1
  clear t0
  go_wp2_with fail
  go_loopg [6, 7] L (fun k r i wr => ∃ j : Nat, j + k = L ∧ i = .int .i64 (j : Nat) ∧ Hid (∀ t, t < j → StepOk nm M (na t) (K t)) ∧ Upd0 w wr)
  case atStart => exact ⟨0, by omega, rfl, fun t ht => by omega, hu1⟩
  case round =>
    clear hu1
    obtain ⟨j, hj, rfl, ha, hu⟩ := hrel
    by_cases hlt : j < L
    · obtain ⟨sb, off, aa, ca, hst', hc0, hc1, hB⟩ := (hst.keep hu) j hlt
      subst hst'
      have hall : Hid (StepOk nm M (na j) (K j) → ∀ t, t < j + 1 → StepOk nm M (na t) (K t)) := fun h t ht => by
        rcases Nat.lt_or_ge t j with h1 | h1
        · exact ha.out t h1
        · obtain rfl : t = j := by omega
          exact h
      obtain ⟨z, Hz⟩ : ∃ z, z = K j := ⟨_, rfl⟩
      obtain ⟨B, HB⟩ : ∃ B, B = A j := ⟨_, rfl⟩
      obtain ⟨nn, Hn⟩ : ∃ n, n = na j := ⟨_, rfl⟩
      rw [← Hz, ← Hn] at hall
      rw [← Hz] at hc0
      rw [← Hn] at hc1 hB
      rw [← HB] at hB
      clear Hz Hn HB
      by_cases b0 : 300 < nm ∨ 300 < nn ∨ (1 < M ∧ nb M < nn)
      · go_wp2_with fail
        with_reducible refine (beyond_yes b0 hB (hm.keep hu)).mono ?_
        rintro e w2 ⟨rfl, hu2⟩
        go_wp2_with fail
        go_ret
        exact ⟨rfl, hu.trans hu2⟩
      · have B0 := Lib.hid b0
        have e8 : (z == 8) = true ∨ (z == 8) = false := by cases z == 8 <;> simp
        have e5 : (z == 5) = true ∨ (z == 5) = false := by cases z == 5 <;> simp
        by_cases b4 : 40 < nn
        · rcases e5 with e5 | e5
          · go_wp2_with fail
            with_reducible refine (beyond_no B0.out hB (hm.keep hu)).mono ?_
            rintro e w2 ⟨rfl, hu2⟩
            replace hc0 := hu2.cell (p := ⟨sb, off + j * 2, none⟩) id hc0
            replace hc1 := hu2.cell (p := ⟨sb, off + j * 2 + 1, none⟩) id hc1
            go_wp2_with fail
            go_ret
            exact ⟨rfl, hu.trans hu2⟩
          · rcases e8 with e8 | e8
            · go_wp2_with fail
              with_reducible refine (beyond_no B0.out hB (hm.keep hu)).mono ?_
              rintro e w2 ⟨rfl, hu2⟩
              replace hc0 := hu2.cell (p := ⟨sb, off + j * 2, none⟩) id hc0
              replace hc1 := hu2.cell (p := ⟨sb, off + j * 2 + 1, none⟩) id hc1
              go_wp2_with fail
              go_ret
              exact ⟨rfl, hu.trans hu2⟩
            · have HA : Hid (∀ t, t < j + 1 → StepOk nm M (na t) (K t)) := hall.out ⟨B0.out, fun h => (by rw [h.2] at e5; cases e5), fun h => (by rw [h] at e8; cases e8)⟩
              go_wp2_with fail
              with_reducible refine (beyond_no B0.out hB (hm.keep hu)).mono ?_
              rintro e w2 ⟨rfl, hu2⟩
              replace hc0 := hu2.cell (p := ⟨sb, off + j * 2, none⟩) id hc0
              replace hc1 := hu2.cell (p := ⟨sb, off + j * 2 + 1, none⟩) id hc1
              go_wp2_with fail
              go_roundg (L - (j + 1))
              case measure => omega
              case rel => exact ⟨j + 1, by omega, by go_num, HA, hu.trans hu2⟩
        · rcases e8 with e8 | e8
          · go_wp2_with fail
            with_reducible refine (beyond_no B0.out hB (hm.keep hu)).mono ?_
            rintro e w2 ⟨rfl, hu2⟩
            replace hc0 := hu2.cell (p := ⟨sb, off + j * 2, none⟩) id hc0
            replace hc1 := hu2.cell (p := ⟨sb, off + j * 2 + 1, none⟩) id hc1
            go_wp2_with fail
            go_ret
            exact ⟨rfl, hu.trans hu2⟩
          · have HA : Hid (∀ t, t < j + 1 → StepOk nm M (na t) (K t)) := hall.out ⟨B0.out, fun h => (by omega), fun h => (by rw [h] at e8; cases e8)⟩
            clear e5
            go_wp2_with fail
            with_reducible refine (beyond_no B0.out hB (hm.keep hu)).mono ?_
            rintro e w2 ⟨rfl, hu2⟩
            replace hc0 := hu2.cell (p := ⟨sb, off + j * 2, none⟩) id hc0
            replace hc1 := hu2.cell (p := ⟨sb, off + j * 2 + 1, none⟩) id hc1
            go_wp2_with fail
            go_roundg (L - (j + 1))
            case measure => omega
            case rel => exact ⟨j + 1, by omega, by go_num, HA, hu.trans hu2⟩
    · obtain rfl : j = L := by omega
      have hx' := hx.keep hu
      have hm' := hm.keep hu
      have hst' := hst.keep hu
      have hnb := hm.nb
      by_cases hc : 1 < M ∧ X < M
      · have ki := iRun_yes (cs := cs) (hnX hc.1) (by omega) (by omega) hx' hm' hst' (fun i hi => ⟨(ha.out i hi).2.2, fun _ => by have := (ha.out i hi).1; omega, by have := (ha.out i hi).1; omega⟩) hc.1 hc.2
        have ks := fun (w2 : World) (u : Upd0 wr w2) => sRun_yes (cs := cs) (by omega) (by omega) (by omega) (hx'.keep u) (hm'.keep u) (hst'.keep u) (fun i hi => ⟨(ha.out i hi).2.2, by have := (ha.out i hi).1; omega⟩) hc.1 hc.2
        cases hr : runN M K A X j with
        | none =>
          rw [runO_none hr (Nat.le_refl _)] at ki ks
          replace ki := Lib.hid ki
          replace ks := Lib.hid ks
          clear hr hc ha hnX
          go_wp2_with fail
          with_reducible refine ki.out.mono ?_
          rintro e w2 ⟨rfl, hu2⟩
          go_wp2_with fail
          with_reducible refine (ks.out _ hu2).mono ?_
          rintro e w3 ⟨rfl, hu3⟩
          go_wp2_with fail
          with_reducible refine (same_eq (by omega) (Bs.emp _) (Bs.emp _)).mono ?_
          rintro e w4 ⟨rfl, hu4⟩
          go_wp2_with fail
          go_ret
          exact ⟨rfl, ((hu.trans hu2).trans hu3).trans hu4⟩
        | some Y =>
          rw [runO_some hr] at ki ks
          replace ki := Lib.hid ki
          replace ks := Lib.hid ks
          clear hr hc ha hnX
          go_wp2_with fail
          with_reducible refine ki.out.mono ?_
          rintro e w2 ⟨a2, c2, rfl, hs2, hu2⟩
          go_wp2_with fail
          with_reducible refine (ks.out _ hu2).mono ?_
          rintro e w3 ⟨a3, c3, rfl, hs3, hu3⟩
          go_wp2_with fail
          with_reducible refine (same_eq (by omega) (hs2.keep hu3) hs3).mono ?_
          rintro e w4 ⟨rfl, hu4⟩
          go_wp2_with fail
          go_ret
          exact ⟨rfl, ((hu.trans hu2).trans hu3).trans hu4⟩
      · have ki := iRun_no (st := st) (L := j) (cs := cs) hnX (by omega) hx' hm' hc
        have ks := fun (w2 : World) (u : Upd0 wr w2) => sRun_no (st := st) (L := j) (cs := cs) (by omega) (by omega) (hx'.keep u) (hm'.keep u) hc
        replace ki := Lib.hid ki
        replace ks := Lib.hid ks
        clear hc ha hnX
        go_wp2_with fail
        with_reducible refine ki.out.mono ?_
        rintro e w2 ⟨rfl, hu2⟩
        go_wp2_with fail
        with_reducible refine (ks.out _ hu2).mono ?_
        rintro e w3 ⟨rfl, hu3⟩
        go_wp2_with fail
        with_reducible refine (same_eq (by omega) (Bs.emp _) (Bs.emp _)).mono ?_
        rintro e w4 ⟨rfl, hu4⟩
        go_wp2_with fail
        go_ret
        exact ⟨rfl, ((hu.trans hu2).trans hu3).trans hu4⟩
end Go.Proofs.YtpojonfopoobpaaGreat
