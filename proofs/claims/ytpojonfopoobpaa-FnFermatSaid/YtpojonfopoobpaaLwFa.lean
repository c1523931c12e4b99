/-
  The law FnFermat at two of its primes.
-/
import Derived.Test.YtpojonfopoobpaaLwF0
namespace Go.Proofs.Ytpojonfopoobpaa
open Go.RowKit

set_option maxRecDepth 100000 in
set_option maxHeartbeats 4000000 in
theorem fermat0 (ax : Option Addr) (nx cx Xx : Nat) (w : World) (hx : Bs w ax nx cx Xx) (s0 : ¬ 2147483647 < nx) :
    Calls Try.prog 6 #[.int .i64 0, .slice ax nx cx] w (Holds1 w) := by
  obtain ⟨P, HP⟩ : ∃ P : Nat, Hid (P = 3) := ⟨_, rfl⟩
  have fer : Hid (Fer P) := by show Fer P; rw [HP.out]; exact fer_3
  have hP1 : 1 < P := by rw [HP.out]; decide
  have hPo : P % 2 = 1 := by have := HP.out; omega
  have hPl : P % 256 = 2 + 1 := by have := HP.out; omega
  have hPn : Hid (nb P = 1) := by
    have h1 := (nb_le_iff 1 P).2 (by rw [HP.out]; decide)
    have h2 : ¬ nb P ≤ 0 := fun h => absurd ((nb_le_iff 0 P).1 h) (by rw [HP.out]; decide)
    show _ = _
    omega
  have hlit := ferLit0
  rw [← HP.out] at hlit
  replace hlit := Lib.hid hlit
  by_cases t0 : ¬ (1 ≤ 300 ∧ nx ≤ 300 ∧ nx ≤ nb P ∧ 1 < P ∧ Xx < P)
  · go_enter Try.func6, Try.ntmps6
    go_wp2_with fail
    refine at_world (fun W => Upd0 w W ∧ Bs W (some ⟨w.heap.size, 0, none⟩) 1 1 P ∧ W.cell? ⟨w.heap.size + 8, 0, none⟩ = some (.slice (some ⟨w.heap.size, 0, none⟩) 1 1)) ⟨by repeat (first | exact Upd.refl _ _ | refine Upd.alloc ?_ _), by repeat (first | exact hlit.out _ _ _ (by simp) | refine Bs.keep ?_ ((Upd.refl _ _).alloc _)), by exact cell_new _ _ _ _ _ _ (by simp) rfl⟩ ?_
    rintro v0 ⟨u, hp, hc⟩
    replace hx := hx.keep u
    go_wp2_with fail
    with_reducible refine (in_no t0 hx hp).mono ?_
    rintro e v1 ⟨rfl, hu1⟩
    replace hx := hx.keep hu1
    replace hp := hp.keep hu1
    replace u := u.trans hu1
    clear hu1
    go_wp2_with fail
    go_ret
    exact ⟨rfl, u⟩
  · have hT := Lib.hid t0
    have hX : Xx < P := by omega
    have hnx : nx ≤ 1 := by have := hPn.out; omega
    obtain ⟨V, HV⟩ : ∃ V, Hid (V = Xx ^ (P - 1) % P) := ⟨_, rfl⟩
    have hVP : V < P := by rw [HV.out]; exact Nat.mod_lt _ (by omega)
    obtain ⟨o, Ho⟩ : ∃ o, Hid (o = eqN V 1) := ⟨_, rfl⟩
    have ho1 : o ≤ 1 := by rw [Ho.out]; exact eqN_le _ _
    have HF : Hid (Xx ^ P % P = Xx) := fer.out.full hX
    clear t0
    by_cases hz0 : Xx = 0
    · skip
      go_enter Try.func6, Try.ntmps6
      go_wp2_with fail
      refine at_world (fun W => Upd0 w W ∧ Bs W (some ⟨w.heap.size, 0, none⟩) 1 1 P ∧ W.cell? ⟨w.heap.size + 8, 0, none⟩ = some (.slice (some ⟨w.heap.size, 0, none⟩) 1 1)) ⟨by repeat (first | exact Upd.refl _ _ | refine Upd.alloc ?_ _), by repeat (first | exact hlit.out _ _ _ (by simp) | refine Bs.keep ?_ ((Upd.refl _ _).alloc _)), by exact cell_new _ _ _ _ _ _ (by simp) rfl⟩ ?_
      rintro v0 ⟨u, hp, hc⟩
      replace hx := hx.keep u
      go_wp2_with fail
      with_reducible refine (in_yes hT.out hx hp).mono ?_
      rintro e v1 ⟨rfl, hu1⟩
      replace hx := hx.keep hu1
      replace hp := hp.keep hu1
      replace u := u.trans hu1
      have HU1 := hu1
      clear hu1
      replace hc := HU1.cell (p := ⟨w.heap.size + 8, 0, none⟩) id hc
      obtain ⟨g, hg, hs, hG⟩ := id hp
      replace hG := Lib.hid hG
      go_wp2_with (at_builtin; refine wpList_append_sl rfl (.tmp 47) (.tmp 48) 22 rfl v1.heap.size 5 .u8 1 Try.underlying22 info_u8 (some ⟨v1.heap.size, 0, none⟩) 0 0 (fun _ => 0) rfl (by exact Grow.made .u8 _ v1 v1.heap.size #[] 0 (fun _ => 0) (Nat.le_refl _) (by simp [maxLen]) rfl) _ 1 1 g rfl (by exact hs.keep ((Upd.refl _ _).alloc _)) (by omega) (by omega) (by simp) ?_; intro al cl v2 hgr hur; have hcp := hgr.copied; obtain ⟨gb, hal, hgb, hgb2, hO⟩ := hcp.open (by omega); subst hal; have hv := last_of hG.out hPl (hg 0 (by omega)); have hcl : v2.cell? ⟨gb, 0, none⟩ = some (.int .u8 3) := (hO.cell 0 (by omega)).trans (by rw [hv]; rfl); have hfl := hO.free 0 (by omega))
      have ua : Upd0 v1 v2 := ((Upd.refl _ v1).alloc _).then hur (fun i hi h => by simp [Value.ownBlock] at h; omega)
      have hle := hcp.le
      have hl : Bs (v2.setCell ⟨gb, 0, none⟩ (.int .u8 2)) (some ⟨gb, 0, none⟩) 1 cl (P - 1) := by
        have hO2 := hO.set (i := 0) (by omega) 2
        have h := hO2.bs hle (fun i hi => by (try dsimp only); split; omega; exact hg i hi)
        rw [be_dec hG.out hv] at h
        exact h
      have uS : Upd0 v1 (v2.setCell ⟨gb, 0, none⟩ (.int .u8 2)) := ua.setCell _ _ (fun h => by simp at h; omega)
      replace hx := hx.keep uS
      replace hp := hp.keep uS
      replace u := u.trans uS
      clear ua hcp hO hv hgr hur hG hs hg g uS
      clear hcl hfl hc
      have ka := iExp_bs (fun _ => by have := hPn.out; omega) (by omega) (by omega) hx hp hp
      rw [optN_yes (show 1 < P ∧ Xx < P ∧ P % 2 = 1 from ⟨by omega, by omega, by omega⟩), hPn.out, HF.out] at ka
      replace ka := Lib.hid ka
      go_wp2_with fail
      with_reducible refine (ka.out).mono ?_
      rintro e v3 ⟨ada, cda, rfl, ha, hu3⟩
      replace hx := hx.keep hu3
      replace hp := hp.keep hu3
      replace hl := hl.keep hu3
      replace u := u.trans hu3
      clear hu3
      have kb := iExp_bs (fun _ => by have := hPn.out; omega) (by omega) (by omega) hx hl hp
      rw [optN_yes (show 1 < P ∧ Xx < P ∧ P % 2 = 1 from ⟨by omega, by omega, by omega⟩), hPn.out, ← HV.out] at kb
      replace kb := Lib.hid kb
      go_wp2_with fail
      with_reducible refine (kb.out).mono ?_
      rintro e v4 ⟨adb, cdb, rfl, hb, hu4⟩
      replace hx := hx.keep hu4
      replace hp := hp.keep hu4
      replace hl := hl.keep hu4
      replace ha := ha.keep hu4
      replace u := u.trans hu4
      clear hu4
      have ko := iIsOne_bs (fun _ => by have := hPn.out; omega) (by omega) hb hp
      rw [optI_yes (show 1 < P ∧ V < P from ⟨by omega, by omega⟩), ← Ho.out] at ko
      replace ko := Lib.hid ko
      go_wp2_with fail
      with_reducible refine (ko.out).mono ?_
      rintro e v5 ⟨rfl, hu5⟩
      replace hx := hx.keep hu5
      replace hp := hp.keep hu5
      replace hl := hl.keep hu5
      replace ha := ha.keep hu5
      replace hb := hb.keep hu5
      replace u := u.trans hu5
      clear hu5
      have kz := set_bs (by have := hPn.out; omega) (by omega) hP1 hX hx hp
      rw [hPn.out] at kz
      replace kz := Lib.hid kz
      go_wp2_with fail
      with_reducible refine (kz.out).mono ?_
      rintro e v6 ⟨adz, cdz, rfl, hz, hu6⟩
      replace hx := hx.keep hu6
      replace hp := hp.keep hu6
      replace hl := hl.keep hu6
      replace ha := ha.keep hu6
      replace hb := hb.keep hu6
      replace u := u.trans hu6
      clear hu6
      go_wp2_with fail
      with_reducible refine (same_eq (by omega) ha hz).mono ?_
      rintro e v7 ⟨rfl, hu7⟩
      replace hx := hx.keep hu7
      replace hp := hp.keep hu7
      replace hl := hl.keep hu7
      replace ha := ha.keep hu7
      replace hb := hb.keep hu7
      replace hz := hz.keep hu7
      replace u := u.trans hu7
      clear hu7
      go_wp2_with fail
      with_reducible refine (zero_yes (by omega) hx hz0).mono ?_
      rintro e v8 ⟨rfl, hu8⟩
      replace hx := hx.keep hu8
      replace hp := hp.keep hu8
      replace hl := hl.keep hu8
      replace ha := ha.keep hu8
      replace hb := hb.keep hu8
      replace hz := hz.keep hu8
      replace u := u.trans hu8
      clear hu8
      go_wp2_with fail
      go_ret
      exact ⟨by first | rfl | exact ret_bool (by simp), u⟩
    · have hV1 : Hid (V = 1) := by show _ = _; rw [HV.out]; exact fer.out.all Xx (by omega) hX
      have ho : o = 1 := by rw [Ho.out, hV1.out]; rfl
      subst ho
      go_enter Try.func6, Try.ntmps6
      go_wp2_with fail
      refine at_world (fun W => Upd0 w W ∧ Bs W (some ⟨w.heap.size, 0, none⟩) 1 1 P ∧ W.cell? ⟨w.heap.size + 8, 0, none⟩ = some (.slice (some ⟨w.heap.size, 0, none⟩) 1 1)) ⟨by repeat (first | exact Upd.refl _ _ | refine Upd.alloc ?_ _), by repeat (first | exact hlit.out _ _ _ (by simp) | refine Bs.keep ?_ ((Upd.refl _ _).alloc _)), by exact cell_new _ _ _ _ _ _ (by simp) rfl⟩ ?_
      rintro v0 ⟨u, hp, hc⟩
      replace hx := hx.keep u
      go_wp2_with fail
      with_reducible refine (in_yes hT.out hx hp).mono ?_
      rintro e v1 ⟨rfl, hu1⟩
      replace hx := hx.keep hu1
      replace hp := hp.keep hu1
      replace u := u.trans hu1
      have HU1 := hu1
      clear hu1
      replace hc := HU1.cell (p := ⟨w.heap.size + 8, 0, none⟩) id hc
      obtain ⟨g, hg, hs, hG⟩ := id hp
      replace hG := Lib.hid hG
      go_wp2_with (at_builtin; refine wpList_append_sl rfl (.tmp 47) (.tmp 48) 22 rfl v1.heap.size 5 .u8 1 Try.underlying22 info_u8 (some ⟨v1.heap.size, 0, none⟩) 0 0 (fun _ => 0) rfl (by exact Grow.made .u8 _ v1 v1.heap.size #[] 0 (fun _ => 0) (Nat.le_refl _) (by simp [maxLen]) rfl) _ 1 1 g rfl (by exact hs.keep ((Upd.refl _ _).alloc _)) (by omega) (by omega) (by simp) ?_; intro al cl v2 hgr hur; have hcp := hgr.copied; obtain ⟨gb, hal, hgb, hgb2, hO⟩ := hcp.open (by omega); subst hal; have hv := last_of hG.out hPl (hg 0 (by omega)); have hcl : v2.cell? ⟨gb, 0, none⟩ = some (.int .u8 3) := (hO.cell 0 (by omega)).trans (by rw [hv]; rfl); have hfl := hO.free 0 (by omega))
      have ua : Upd0 v1 v2 := ((Upd.refl _ v1).alloc _).then hur (fun i hi h => by simp [Value.ownBlock] at h; omega)
      have hle := hcp.le
      have hl : Bs (v2.setCell ⟨gb, 0, none⟩ (.int .u8 2)) (some ⟨gb, 0, none⟩) 1 cl (P - 1) := by
        have hO2 := hO.set (i := 0) (by omega) 2
        have h := hO2.bs hle (fun i hi => by (try dsimp only); split; omega; exact hg i hi)
        rw [be_dec hG.out hv] at h
        exact h
      have uS : Upd0 v1 (v2.setCell ⟨gb, 0, none⟩ (.int .u8 2)) := ua.setCell _ _ (fun h => by simp at h; omega)
      replace hx := hx.keep uS
      replace hp := hp.keep uS
      replace u := u.trans uS
      clear ua hcp hO hv hgr hur hG hs hg g uS
      clear hcl hfl hc
      have ka := iExp_bs (fun _ => by have := hPn.out; omega) (by omega) (by omega) hx hp hp
      rw [optN_yes (show 1 < P ∧ Xx < P ∧ P % 2 = 1 from ⟨by omega, by omega, by omega⟩), hPn.out, HF.out] at ka
      replace ka := Lib.hid ka
      go_wp2_with fail
      with_reducible refine (ka.out).mono ?_
      rintro e v3 ⟨ada, cda, rfl, ha, hu3⟩
      replace hx := hx.keep hu3
      replace hp := hp.keep hu3
      replace hl := hl.keep hu3
      replace u := u.trans hu3
      clear hu3
      have kb := iExp_bs (fun _ => by have := hPn.out; omega) (by omega) (by omega) hx hl hp
      rw [optN_yes (show 1 < P ∧ Xx < P ∧ P % 2 = 1 from ⟨by omega, by omega, by omega⟩), hPn.out, ← HV.out] at kb
      replace kb := Lib.hid kb
      go_wp2_with fail
      with_reducible refine (kb.out).mono ?_
      rintro e v4 ⟨adb, cdb, rfl, hb, hu4⟩
      replace hx := hx.keep hu4
      replace hp := hp.keep hu4
      replace hl := hl.keep hu4
      replace ha := ha.keep hu4
      replace u := u.trans hu4
      clear hu4
      have ko := iIsOne_bs (fun _ => by have := hPn.out; omega) (by omega) hb hp
      rw [optI_yes (show 1 < P ∧ V < P from ⟨by omega, by omega⟩), ← Ho.out] at ko
      replace ko := Lib.hid ko
      go_wp2_with fail
      with_reducible refine (ko.out).mono ?_
      rintro e v5 ⟨rfl, hu5⟩
      replace hx := hx.keep hu5
      replace hp := hp.keep hu5
      replace hl := hl.keep hu5
      replace ha := ha.keep hu5
      replace hb := hb.keep hu5
      replace u := u.trans hu5
      clear hu5
      have kz := set_bs (by have := hPn.out; omega) (by omega) hP1 hX hx hp
      rw [hPn.out] at kz
      replace kz := Lib.hid kz
      go_wp2_with fail
      with_reducible refine (kz.out).mono ?_
      rintro e v6 ⟨adz, cdz, rfl, hz, hu6⟩
      replace hx := hx.keep hu6
      replace hp := hp.keep hu6
      replace hl := hl.keep hu6
      replace ha := ha.keep hu6
      replace hb := hb.keep hu6
      replace u := u.trans hu6
      clear hu6
      go_wp2_with fail
      with_reducible refine (same_eq (by omega) ha hz).mono ?_
      rintro e v7 ⟨rfl, hu7⟩
      replace hx := hx.keep hu7
      replace hp := hp.keep hu7
      replace hl := hl.keep hu7
      replace ha := ha.keep hu7
      replace hb := hb.keep hu7
      replace hz := hz.keep hu7
      replace u := u.trans hu7
      clear hu7
      go_wp2_with fail
      with_reducible refine (zero_no (by omega) hx hz0).mono ?_
      rintro e v8 ⟨rfl, hu8⟩
      replace hx := hx.keep hu8
      replace hp := hp.keep hu8
      replace hl := hl.keep hu8
      replace ha := ha.keep hu8
      replace hb := hb.keep hu8
      replace hz := hz.keep hu8
      replace u := u.trans hu8
      clear hu8
      go_wp2_with fail
      go_ret
      exact ⟨by first | rfl | exact ret_bool (by simp), u⟩

set_option maxRecDepth 100000 in
set_option maxHeartbeats 4000000 in
theorem fermat1 (ax : Option Addr) (nx cx Xx : Nat) (w : World) (hx : Bs w ax nx cx Xx) (s0 : ¬ 2147483647 < nx) :
    Calls Try.prog 6 #[.int .i64 1, .slice ax nx cx] w (Holds1 w) := by
  obtain ⟨P, HP⟩ : ∃ P : Nat, Hid (P = 5) := ⟨_, rfl⟩
  have fer : Hid (Fer P) := by show Fer P; rw [HP.out]; exact fer_5
  have hP1 : 1 < P := by rw [HP.out]; decide
  have hPo : P % 2 = 1 := by have := HP.out; omega
  have hPl : P % 256 = 4 + 1 := by have := HP.out; omega
  have hPn : Hid (nb P = 1) := by
    have h1 := (nb_le_iff 1 P).2 (by rw [HP.out]; decide)
    have h2 : ¬ nb P ≤ 0 := fun h => absurd ((nb_le_iff 0 P).1 h) (by rw [HP.out]; decide)
    show _ = _
    omega
  have hlit := ferLit1
  rw [← HP.out] at hlit
  replace hlit := Lib.hid hlit
  by_cases t0 : ¬ (1 ≤ 300 ∧ nx ≤ 300 ∧ nx ≤ nb P ∧ 1 < P ∧ Xx < P)
  · go_enter Try.func6, Try.ntmps6
    go_wp2_with fail
    refine at_world (fun W => Upd0 w W ∧ Bs W (some ⟨w.heap.size + 1, 0, none⟩) 1 1 P ∧ W.cell? ⟨w.heap.size + 8, 1, none⟩ = some (.slice (some ⟨w.heap.size + 1, 0, none⟩) 1 1)) ⟨by repeat (first | exact Upd.refl _ _ | refine Upd.alloc ?_ _), by repeat (first | exact hlit.out _ _ _ (by simp) | refine Bs.keep ?_ ((Upd.refl _ _).alloc _)), by exact cell_new _ _ _ _ _ _ (by simp) rfl⟩ ?_
    rintro v0 ⟨u, hp, hc⟩
    replace hx := hx.keep u
    go_wp2_with fail
    with_reducible refine (in_no t0 hx hp).mono ?_
    rintro e v1 ⟨rfl, hu1⟩
    replace hx := hx.keep hu1
    replace hp := hp.keep hu1
    replace u := u.trans hu1
    clear hu1
    go_wp2_with fail
    go_ret
    exact ⟨rfl, u⟩
  · have hT := Lib.hid t0
    have hX : Xx < P := by omega
    have hnx : nx ≤ 1 := by have := hPn.out; omega
    obtain ⟨V, HV⟩ : ∃ V, Hid (V = Xx ^ (P - 1) % P) := ⟨_, rfl⟩
    have hVP : V < P := by rw [HV.out]; exact Nat.mod_lt _ (by omega)
    obtain ⟨o, Ho⟩ : ∃ o, Hid (o = eqN V 1) := ⟨_, rfl⟩
    have ho1 : o ≤ 1 := by rw [Ho.out]; exact eqN_le _ _
    have HF : Hid (Xx ^ P % P = Xx) := fer.out.full hX
    clear t0
    by_cases hz0 : Xx = 0
    · skip
      go_enter Try.func6, Try.ntmps6
      go_wp2_with fail
      refine at_world (fun W => Upd0 w W ∧ Bs W (some ⟨w.heap.size + 1, 0, none⟩) 1 1 P ∧ W.cell? ⟨w.heap.size + 8, 1, none⟩ = some (.slice (some ⟨w.heap.size + 1, 0, none⟩) 1 1)) ⟨by repeat (first | exact Upd.refl _ _ | refine Upd.alloc ?_ _), by repeat (first | exact hlit.out _ _ _ (by simp) | refine Bs.keep ?_ ((Upd.refl _ _).alloc _)), by exact cell_new _ _ _ _ _ _ (by simp) rfl⟩ ?_
      rintro v0 ⟨u, hp, hc⟩
      replace hx := hx.keep u
      go_wp2_with fail
      with_reducible refine (in_yes hT.out hx hp).mono ?_
      rintro e v1 ⟨rfl, hu1⟩
      replace hx := hx.keep hu1
      replace hp := hp.keep hu1
      replace u := u.trans hu1
      have HU1 := hu1
      clear hu1
      replace hc := HU1.cell (p := ⟨w.heap.size + 8, 1, none⟩) id hc
      obtain ⟨g, hg, hs, hG⟩ := id hp
      replace hG := Lib.hid hG
      go_wp2_with (at_builtin; refine wpList_append_sl rfl (.tmp 47) (.tmp 48) 22 rfl v1.heap.size 5 .u8 1 Try.underlying22 info_u8 (some ⟨v1.heap.size, 0, none⟩) 0 0 (fun _ => 0) rfl (by exact Grow.made .u8 _ v1 v1.heap.size #[] 0 (fun _ => 0) (Nat.le_refl _) (by simp [maxLen]) rfl) _ 1 1 g rfl (by exact hs.keep ((Upd.refl _ _).alloc _)) (by omega) (by omega) (by simp) ?_; intro al cl v2 hgr hur; have hcp := hgr.copied; obtain ⟨gb, hal, hgb, hgb2, hO⟩ := hcp.open (by omega); subst hal; have hv := last_of hG.out hPl (hg 0 (by omega)); have hcl : v2.cell? ⟨gb, 0, none⟩ = some (.int .u8 5) := (hO.cell 0 (by omega)).trans (by rw [hv]; rfl); have hfl := hO.free 0 (by omega))
      have ua : Upd0 v1 v2 := ((Upd.refl _ v1).alloc _).then hur (fun i hi h => by simp [Value.ownBlock] at h; omega)
      have hle := hcp.le
      have hl : Bs (v2.setCell ⟨gb, 0, none⟩ (.int .u8 4)) (some ⟨gb, 0, none⟩) 1 cl (P - 1) := by
        have hO2 := hO.set (i := 0) (by omega) 4
        have h := hO2.bs hle (fun i hi => by (try dsimp only); split; omega; exact hg i hi)
        rw [be_dec hG.out hv] at h
        exact h
      have uS : Upd0 v1 (v2.setCell ⟨gb, 0, none⟩ (.int .u8 4)) := ua.setCell _ _ (fun h => by simp at h; omega)
      replace hx := hx.keep uS
      replace hp := hp.keep uS
      replace u := u.trans uS
      clear ua hcp hO hv hgr hur hG hs hg g uS
      clear hcl hfl hc
      have ka := iExp_bs (fun _ => by have := hPn.out; omega) (by omega) (by omega) hx hp hp
      rw [optN_yes (show 1 < P ∧ Xx < P ∧ P % 2 = 1 from ⟨by omega, by omega, by omega⟩), hPn.out, HF.out] at ka
      replace ka := Lib.hid ka
      go_wp2_with fail
      with_reducible refine (ka.out).mono ?_
      rintro e v3 ⟨ada, cda, rfl, ha, hu3⟩
      replace hx := hx.keep hu3
      replace hp := hp.keep hu3
      replace hl := hl.keep hu3
      replace u := u.trans hu3
      clear hu3
      have kb := iExp_bs (fun _ => by have := hPn.out; omega) (by omega) (by omega) hx hl hp
      rw [optN_yes (show 1 < P ∧ Xx < P ∧ P % 2 = 1 from ⟨by omega, by omega, by omega⟩), hPn.out, ← HV.out] at kb
      replace kb := Lib.hid kb
      go_wp2_with fail
      with_reducible refine (kb.out).mono ?_
      rintro e v4 ⟨adb, cdb, rfl, hb, hu4⟩
      replace hx := hx.keep hu4
      replace hp := hp.keep hu4
      replace hl := hl.keep hu4
      replace ha := ha.keep hu4
      replace u := u.trans hu4
      clear hu4
      have ko := iIsOne_bs (fun _ => by have := hPn.out; omega) (by omega) hb hp
      rw [optI_yes (show 1 < P ∧ V < P from ⟨by omega, by omega⟩), ← Ho.out] at ko
      replace ko := Lib.hid ko
      go_wp2_with fail
      with_reducible refine (ko.out).mono ?_
      rintro e v5 ⟨rfl, hu5⟩
      replace hx := hx.keep hu5
      replace hp := hp.keep hu5
      replace hl := hl.keep hu5
      replace ha := ha.keep hu5
      replace hb := hb.keep hu5
      replace u := u.trans hu5
      clear hu5
      have kz := set_bs (by have := hPn.out; omega) (by omega) hP1 hX hx hp
      rw [hPn.out] at kz
      replace kz := Lib.hid kz
      go_wp2_with fail
      with_reducible refine (kz.out).mono ?_
      rintro e v6 ⟨adz, cdz, rfl, hz, hu6⟩
      replace hx := hx.keep hu6
      replace hp := hp.keep hu6
      replace hl := hl.keep hu6
      replace ha := ha.keep hu6
      replace hb := hb.keep hu6
      replace u := u.trans hu6
      clear hu6
      go_wp2_with fail
      with_reducible refine (same_eq (by omega) ha hz).mono ?_
      rintro e v7 ⟨rfl, hu7⟩
      replace hx := hx.keep hu7
      replace hp := hp.keep hu7
      replace hl := hl.keep hu7
      replace ha := ha.keep hu7
      replace hb := hb.keep hu7
      replace hz := hz.keep hu7
      replace u := u.trans hu7
      clear hu7
      go_wp2_with fail
      with_reducible refine (zero_yes (by omega) hx hz0).mono ?_
      rintro e v8 ⟨rfl, hu8⟩
      replace hx := hx.keep hu8
      replace hp := hp.keep hu8
      replace hl := hl.keep hu8
      replace ha := ha.keep hu8
      replace hb := hb.keep hu8
      replace hz := hz.keep hu8
      replace u := u.trans hu8
      clear hu8
      go_wp2_with fail
      go_ret
      exact ⟨by first | rfl | exact ret_bool (by simp), u⟩
    · have hV1 : Hid (V = 1) := by show _ = _; rw [HV.out]; exact fer.out.all Xx (by omega) hX
      have ho : o = 1 := by rw [Ho.out, hV1.out]; rfl
      subst ho
      go_enter Try.func6, Try.ntmps6
      go_wp2_with fail
      refine at_world (fun W => Upd0 w W ∧ Bs W (some ⟨w.heap.size + 1, 0, none⟩) 1 1 P ∧ W.cell? ⟨w.heap.size + 8, 1, none⟩ = some (.slice (some ⟨w.heap.size + 1, 0, none⟩) 1 1)) ⟨by repeat (first | exact Upd.refl _ _ | refine Upd.alloc ?_ _), by repeat (first | exact hlit.out _ _ _ (by simp) | refine Bs.keep ?_ ((Upd.refl _ _).alloc _)), by exact cell_new _ _ _ _ _ _ (by simp) rfl⟩ ?_
      rintro v0 ⟨u, hp, hc⟩
      replace hx := hx.keep u
      go_wp2_with fail
      with_reducible refine (in_yes hT.out hx hp).mono ?_
      rintro e v1 ⟨rfl, hu1⟩
      replace hx := hx.keep hu1
      replace hp := hp.keep hu1
      replace u := u.trans hu1
      have HU1 := hu1
      clear hu1
      replace hc := HU1.cell (p := ⟨w.heap.size + 8, 1, none⟩) id hc
      obtain ⟨g, hg, hs, hG⟩ := id hp
      replace hG := Lib.hid hG
      go_wp2_with (at_builtin; refine wpList_append_sl rfl (.tmp 47) (.tmp 48) 22 rfl v1.heap.size 5 .u8 1 Try.underlying22 info_u8 (some ⟨v1.heap.size, 0, none⟩) 0 0 (fun _ => 0) rfl (by exact Grow.made .u8 _ v1 v1.heap.size #[] 0 (fun _ => 0) (Nat.le_refl _) (by simp [maxLen]) rfl) _ 1 1 g rfl (by exact hs.keep ((Upd.refl _ _).alloc _)) (by omega) (by omega) (by simp) ?_; intro al cl v2 hgr hur; have hcp := hgr.copied; obtain ⟨gb, hal, hgb, hgb2, hO⟩ := hcp.open (by omega); subst hal; have hv := last_of hG.out hPl (hg 0 (by omega)); have hcl : v2.cell? ⟨gb, 0, none⟩ = some (.int .u8 5) := (hO.cell 0 (by omega)).trans (by rw [hv]; rfl); have hfl := hO.free 0 (by omega))
      have ua : Upd0 v1 v2 := ((Upd.refl _ v1).alloc _).then hur (fun i hi h => by simp [Value.ownBlock] at h; omega)
      have hle := hcp.le
      have hl : Bs (v2.setCell ⟨gb, 0, none⟩ (.int .u8 4)) (some ⟨gb, 0, none⟩) 1 cl (P - 1) := by
        have hO2 := hO.set (i := 0) (by omega) 4
        have h := hO2.bs hle (fun i hi => by (try dsimp only); split; omega; exact hg i hi)
        rw [be_dec hG.out hv] at h
        exact h
      have uS : Upd0 v1 (v2.setCell ⟨gb, 0, none⟩ (.int .u8 4)) := ua.setCell _ _ (fun h => by simp at h; omega)
      replace hx := hx.keep uS
      replace hp := hp.keep uS
      replace u := u.trans uS
      clear ua hcp hO hv hgr hur hG hs hg g uS
      clear hcl hfl hc
      have ka := iExp_bs (fun _ => by have := hPn.out; omega) (by omega) (by omega) hx hp hp
      rw [optN_yes (show 1 < P ∧ Xx < P ∧ P % 2 = 1 from ⟨by omega, by omega, by omega⟩), hPn.out, HF.out] at ka
      replace ka := Lib.hid ka
      go_wp2_with fail
      with_reducible refine (ka.out).mono ?_
      rintro e v3 ⟨ada, cda, rfl, ha, hu3⟩
      replace hx := hx.keep hu3
      replace hp := hp.keep hu3
      replace hl := hl.keep hu3
      replace u := u.trans hu3
      clear hu3
      have kb := iExp_bs (fun _ => by have := hPn.out; omega) (by omega) (by omega) hx hl hp
      rw [optN_yes (show 1 < P ∧ Xx < P ∧ P % 2 = 1 from ⟨by omega, by omega, by omega⟩), hPn.out, ← HV.out] at kb
      replace kb := Lib.hid kb
      go_wp2_with fail
      with_reducible refine (kb.out).mono ?_
      rintro e v4 ⟨adb, cdb, rfl, hb, hu4⟩
      replace hx := hx.keep hu4
      replace hp := hp.keep hu4
      replace hl := hl.keep hu4
      replace ha := ha.keep hu4
      replace u := u.trans hu4
      clear hu4
      have ko := iIsOne_bs (fun _ => by have := hPn.out; omega) (by omega) hb hp
      rw [optI_yes (show 1 < P ∧ V < P from ⟨by omega, by omega⟩), ← Ho.out] at ko
      replace ko := Lib.hid ko
      go_wp2_with fail
      with_reducible refine (ko.out).mono ?_
      rintro e v5 ⟨rfl, hu5⟩
      replace hx := hx.keep hu5
      replace hp := hp.keep hu5
      replace hl := hl.keep hu5
      replace ha := ha.keep hu5
      replace hb := hb.keep hu5
      replace u := u.trans hu5
      clear hu5
      have kz := set_bs (by have := hPn.out; omega) (by omega) hP1 hX hx hp
      rw [hPn.out] at kz
      replace kz := Lib.hid kz
      go_wp2_with fail
      with_reducible refine (kz.out).mono ?_
      rintro e v6 ⟨adz, cdz, rfl, hz, hu6⟩
      replace hx := hx.keep hu6
      replace hp := hp.keep hu6
      replace hl := hl.keep hu6
      replace ha := ha.keep hu6
      replace hb := hb.keep hu6
      replace u := u.trans hu6
      clear hu6
      go_wp2_with fail
      with_reducible refine (same_eq (by omega) ha hz).mono ?_
      rintro e v7 ⟨rfl, hu7⟩
      replace hx := hx.keep hu7
      replace hp := hp.keep hu7
      replace hl := hl.keep hu7
      replace ha := ha.keep hu7
      replace hb := hb.keep hu7
      replace hz := hz.keep hu7
      replace u := u.trans hu7
      clear hu7
      go_wp2_with fail
      with_reducible refine (zero_no (by omega) hx hz0).mono ?_
      rintro e v8 ⟨rfl, hu8⟩
      replace hx := hx.keep hu8
      replace hp := hp.keep hu8
      replace hl := hl.keep hu8
      replace ha := ha.keep hu8
      replace hb := hb.keep hu8
      replace hz := hz.keep hu8
      replace u := u.trans hu8
      clear hu8
      go_wp2_with fail
      go_ret
      exact ⟨by first | rfl | exact ret_bool (by simp), u⟩

end Go.Proofs.Ytpojonfopoobpaa
