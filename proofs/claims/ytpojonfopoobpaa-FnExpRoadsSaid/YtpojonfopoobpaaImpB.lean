/-
  Contracts: impl.SubOne, IsMinusOne, SetOverflowing, Inverse.
-/
import Derived.Test.YtpojonfopoobpaaMulI
namespace Go.Proofs.Ytpojonfopoobpaa
open Go.RowKit

/-- The bits of the highest limbs tell which number has more. -/
theorem top_cmp {n X M : Nat} (hn : nl M = n) (h0 : 0 < n) (hX : X < W64 ^ n) : blen (dg W64 M (n - 1)) < blen (dg W64 X (n - 1)) ↔ blen M < blen X := by
  obtain ⟨j, rfl⟩ : ∃ j, n = j + 1 := ⟨n - 1, by omega⟩
  rw [Nat.add_sub_cancel]
  have hM : M < W64 ^ (j + 1) := by rw [← hn]; exact lt_pow_nl M
  have ht : dg W64 M j ≠ 0 := fun h => by
    have := (nl_le_iff j M).2 (lt_of_no_top hM h)
    omega
  have e1 := blen_topW hM ht
  have hp := blen_pos ht
  by_cases hz : dg W64 X j = 0
  · have h1 : blen X ≤ 64 * j := by rw [blen_le_iff, ← powW]; exact lt_of_no_top hX hz
    rw [hz, blen_zero]; omega
  · have e2 := blen_topW hX hz
    omega
theorem lt_two_of_blen {X M : Nat} (h0 : 0 < M) (h : blen X ≤ blen M) : X < 2 * M := by
  have h1 := (blen_le_iff (blen M) X).1 h
  have hp := blen_pos (n := M) (by omega)
  have h2 := two_pow_le_of_blen (n := M) (k := blen M - 1) (by omega)
  obtain ⟨j, hj⟩ : ∃ j, blen M = j + 1 := ⟨blen M - 1, by omega⟩
  rw [hj] at h1 h2
  rw [Nat.add_sub_cancel] at h2
  rw [Nat.pow_succ] at h1
  omega
theorem msN_small {n X M : Nat} (hM : M < W64 ^ n) (hX : X < W64 ^ n) (h : X < 2 * M) : msN n 0 X M = X % M := by
  have h1 := msN_eq (n := n) (T := X) (M := M) hM (by omega)
  rw [Nat.div_eq_of_lt hX, Nat.mod_eq_of_lt hX] at h1
  rw [h1, redN_mod h]
theorem maybeSub_zero (p b c n X mp q b' c' M : Nat) (w : World) (hx : NatAt w p b c n X) (hm : MNat w mp q b' c' n M) :
    Calls Try.prog 100 #[.pointer (some ⟨p, 0, none⟩), .int .u64 0, .pointer (some ⟨mp, 0, none⟩)] w fun e w' => e = .returned (.tuple #[]) ∧ NatAt w' p b c n (msN n 0 X M) ∧ Upd (fun k => k = b) w w' := maybeSub_any p b c n X 0 mp q b' c' M w hx hm (by omega)
set_option maxRecDepth 100000 in
set_option maxHeartbeats 4000000 in
theorem natSetOv_yes {p b c m X0 s mp n M : Nat} {a : Option Addr} {nx cx X : Nat} {w : World} (hx : NatAt w p b c m X0) (hm : ModAt w s mp n M) (hp : s ≤ p) (hb : s ≤ b) (hB : Bs w a nx cx X) (hnx : nx ≤ 8 * n) (hne : ∀ x off, a = some ⟨x, off, none⟩ → x ≠ b ∧ x ≠ p ∧ x < w.heap.size) (hX : blen X ≤ blen M) :
    Calls Try.prog 71 #[.pointer (some ⟨p, 0, none⟩), .slice a nx cx, .pointer (some ⟨mp, 0, none⟩)] w (RetSetYes w p b n (X % M)) := by
  obtain ⟨q, bm, cm, hmn, hq, hbm⟩ := hm.ex
  have hmp := hm.hp
  have hms := hm.hs
  have h1 := hm.h1
  have hn0 := hm.npos
  have hn0' : (0 : Int) < (n : Int) := by omega
  have hnl := hm.hn.symm
  have hlM := hm.lt
  have HXM : Hid (blen X ≤ blen M) := hX
  have HNL := Lib.hid hnl
  clear hX hnl
  go_enter Try.func71, Try.ntmps71
  go_wp2_with fail
  with_reducible refine (resetFor_any p b c m X0 mp q bm cm n M w hx hmn).mono ?_
  rintro e w1 ⟨rfl, b1, c1, hx1, hb1, hu1⟩
  have hsb1 : s ≤ b1 := by rcases hb1 with h | h <;> omega
  have hB1 := hB.keepS hu1 (fun x off h => by have := hne x off h; omega)
  obtain ⟨f, hf, hs1, HB⟩ := hB1
  have hne1 : 0 < nx → ∀ x off, a = some ⟨x, off, none⟩ → x ≠ b1 := fun _ x off h => by
    have := hne x off h
    rcases hb1 with h2 | h2 <;> omega
  have k2 := setBytes_any p b1 c1 n a nx cx f w1 hx1 hnx hf hs1 hne1
  rw [HB] at k2
  replace k2 := Lib.hid k2
  clear HB hf hs1 hne1
  go_wp2_with fail
  with_reducible refine k2.out.mono ?_
  rintro e w2 ⟨rfl, hx2, hu2⟩
  have hmn2 : MNat w2 mp q bm cm n M := (hmn.keep hu1 (by omega) (by omega) (by omega)).keep hu2 (by omega) (by omega) (by omega)
  have hu12 : Upd (fun k => k = p ∨ k = b) w w2 := hu1.then hu2 (fun i hi h => by rcases hb1 with h' | h' <;> omega)
  obtain ⟨dx, hdx, hdxl, HDX⟩ := hx2.limb (show n - 1 < n by omega)
  obtain ⟨dm, hdm, hdml, HDM⟩ := hmn2.nat.limb (show n - 1 < n by omega)
  have HT : Hid (blen dm < blen dx ↔ blen M < blen X) := by
    show _ ↔ _
    rw [HDX.out, HDM.out]; exact top_cmp HNL.out hn0 hx2.lt
  have cx1 := hx2.hd
  have cx2 := hmn2.hm
  have cx3 := hmn2.nat.hd
  have j1 : (n : Int) - 1 < (n : Int) := by omega
  have j2 : (0 : Int) ≤ (n : Int) - 1 := by omega
  have j2' : (1 : Int) ≤ (n : Int) := by omega
  have j3 : ((n : Int) - 1).toNat = n - 1 := by omega
  have kb1 := fun w => bitLen_any dx w hdxl
  have kb2 := fun w => bitLen_any dm w hdml
  replace kb1 := Lib.hid kb1
  replace kb2 := Lib.hid kb2
  have hgt : ¬ ((blen dm : Nat) : Int) < ((blen dx : Nat) : Int) := by have h3 := HT.out; have h4 := HXM.out; omega
  have HS := Lib.hid (msN_small hlM hx2.lt (lt_two_of_blen (by omega) HXM.out))
  have ln := hmn2.nat.le
  have sn := hmn2.nat.sm
  have ew := w64 ((n : Int) - 1) (by omega) (by omega)
  go_wp2_with fail
  go_quiet ((first | (go_at_call 114; with_reducible exact quiet_same (kb1.out _)) | (go_at_call 114; with_reducible exact quiet_same (kb2.out _))))
  rename_i nq
  replace hx2 := hx2.drewN nq
  replace hmn2 := hmn2.keep0 ((Upd.refl _ _).drewN nq)
  replace hu12 := hu12.drewN nq
  clear ew
  have k3 := maybeSub_zero p b1 c1 n X mp q bm cm M _ hx2 hmn2
  rw [HS.out] at k3
  replace k3 := Lib.hid k3
  go_wp2_with fail
  with_reducible refine k3.out.mono ?_
  rintro e w3 ⟨rfl, hx3, hu3⟩
  go_wp2_with fail
  go_ret2
  exact ⟨rfl, b1, c1, hx3, hb1, hu12.then hu3 (fun i hi h => by rcases hb1 with h' | h' <;> omega)⟩
set_option maxRecDepth 100000 in
set_option maxHeartbeats 4000000 in
theorem natSetOv_no {p b c m X0 s mp n M : Nat} {a : Option Addr} {nx cx X : Nat} {w : World} (hx : NatAt w p b c m X0) (hm : ModAt w s mp n M) (hp : s ≤ p) (hb : s ≤ b) (hB : Bs w a nx cx X) (hnx : nx ≤ 8 * n) (hne : ∀ x off, a = some ⟨x, off, none⟩ → x ≠ b ∧ x ≠ p ∧ x < w.heap.size) (hX : ¬ blen X ≤ blen M) :
    Calls Try.prog 71 #[.pointer (some ⟨p, 0, none⟩), .slice a nx cx, .pointer (some ⟨mp, 0, none⟩)] w (RetSetNo w p b) := by
  obtain ⟨q, bm, cm, hmn, hq, hbm⟩ := hm.ex
  have hmp := hm.hp
  have hms := hm.hs
  have h1 := hm.h1
  have hn0 := hm.npos
  have hn0' : (0 : Int) < (n : Int) := by omega
  have hnl := hm.hn.symm
  have hlM := hm.lt
  have HXM : Hid (¬ blen X ≤ blen M) := hX
  have HNL := Lib.hid hnl
  clear hX hnl
  go_enter Try.func71, Try.ntmps71
  go_wp2_with fail
  with_reducible refine (resetFor_any p b c m X0 mp q bm cm n M w hx hmn).mono ?_
  rintro e w1 ⟨rfl, b1, c1, hx1, hb1, hu1⟩
  have hsb1 : s ≤ b1 := by rcases hb1 with h | h <;> omega
  have hB1 := hB.keepS hu1 (fun x off h => by have := hne x off h; omega)
  obtain ⟨f, hf, hs1, HB⟩ := hB1
  have hne1 : 0 < nx → ∀ x off, a = some ⟨x, off, none⟩ → x ≠ b1 := fun _ x off h => by
    have := hne x off h
    rcases hb1 with h2 | h2 <;> omega
  have k2 := setBytes_any p b1 c1 n a nx cx f w1 hx1 hnx hf hs1 hne1
  rw [HB] at k2
  replace k2 := Lib.hid k2
  clear HB hf hs1 hne1
  go_wp2_with fail
  with_reducible refine k2.out.mono ?_
  rintro e w2 ⟨rfl, hx2, hu2⟩
  have hmn2 : MNat w2 mp q bm cm n M := (hmn.keep hu1 (by omega) (by omega) (by omega)).keep hu2 (by omega) (by omega) (by omega)
  have hu12 : Upd (fun k => k = p ∨ k = b) w w2 := hu1.then hu2 (fun i hi h => by rcases hb1 with h' | h' <;> omega)
  obtain ⟨dx, hdx, hdxl, HDX⟩ := hx2.limb (show n - 1 < n by omega)
  obtain ⟨dm, hdm, hdml, HDM⟩ := hmn2.nat.limb (show n - 1 < n by omega)
  have HT : Hid (blen dm < blen dx ↔ blen M < blen X) := by
    show _ ↔ _
    rw [HDX.out, HDM.out]; exact top_cmp HNL.out hn0 hx2.lt
  have cx1 := hx2.hd
  have cx2 := hmn2.hm
  have cx3 := hmn2.nat.hd
  have j1 : (n : Int) - 1 < (n : Int) := by omega
  have j2 : (0 : Int) ≤ (n : Int) - 1 := by omega
  have j2' : (1 : Int) ≤ (n : Int) := by omega
  have j3 : ((n : Int) - 1).toNat = n - 1 := by omega
  have kb1 := fun w => bitLen_any dx w hdxl
  have kb2 := fun w => bitLen_any dm w hdml
  replace kb1 := Lib.hid kb1
  replace kb2 := Lib.hid kb2
  have hgt : ((blen dm : Nat) : Int) < ((blen dx : Nat) : Int) := by have h3 := HT.out; have h4 := HXM.out; omega
  have ln := hmn2.nat.le
  have sn := hmn2.nat.sm
  have ew := w64 ((n : Int) - 1) (by omega) (by omega)
  go_wp2_with fail
  go_quiet ((first | (go_at_call 114; with_reducible exact quiet_same (kb1.out _)) | (go_at_call 114; with_reducible exact quiet_same (kb2.out _))))
  rename_i nq
  replace hx2 := hx2.drewN nq
  replace hmn2 := hmn2.keep0 ((Upd.refl _ _).drewN nq)
  replace hu12 := hu12.drewN nq
  clear ew
  go_wp2_with fail
  with_reducible refine (errNew_any _ _).mono ?_
  rintro e w4 ⟨⟨t, x, rfl⟩, hu4⟩
  go_wp2_with fail
  go_ret2
  exact ⟨t, x, rfl, hu12.then hu4 (fun _ _ h => h.elim)⟩
set_option maxRecDepth 100000 in
set_option maxHeartbeats 1000000 in
theorem iSetOverflowing_bs {ax am : Option Addr} {nx cx nm cm X M : Nat} {w : World} (hnx : 1 < M → nx ≤ nb M) (hnm : nm ≤ 4000) (hx : Bs w ax nx cx X) (hm : Bs w am nm cm M) :
    Calls Try.prog 39 #[.slice ax nx cx, .slice am nm cm] w (RetOpt w (optN (1 < M ∧ blen X ≤ blen M) M (X % M))) := by
  by_cases h1 : 1 < M
  · replace hnx := hnx h1
    have hl := nb_le_limbs M
    have hnbm : nb M ≤ 4000 := Nat.le_trans hm.nb hnm
    by_cases h2 : blen X ≤ blen M
    · rw [optN_yes ⟨h1, h2⟩]
      go_enter Try.func39, Try.ntmps39
      go_wp2_with fail
      with_reducible refine (iModulus_yes (by omega) hm h1).mono ?_
      rintro e w1 ⟨mp, rfl, hmod, hu1⟩
      go_wp2_with fail
      with_reducible refine (newNat_any w1).mono ?_
      rintro e w2 ⟨rfl, hx2, hu2, hz2⟩
      replace hz2 := Lib.hid hz2
      go_wp2_with fail
      with_reducible refine (cloneN (by omega) ((hx.keep hu1).keep hu2)).mono ?_
      rintro e w3 ⟨a3, c3, rfl, hB3, hnw, hu3⟩
      have hmod3 := (hmod.keep0 hu2).keep0 hu3
      have hne : ∀ x off, a3 = some ⟨x, off, none⟩ → x ≠ w1.heap.size ∧ x ≠ w1.heap.size + 1 ∧ x < w3.heap.size := fun x off h => by
        have h1 := hnw x off h
        have h2 := hz2.out
        omega
      have hz1 := hu1.size
      have hz3 := hz2.out
      have k4 := Lib.hid (natSetOv_yes (hx2.keep0 hu3) hmod3 (by omega) (by omega) hB3 (by omega) hne h2)
      go_wp2_with fail
      with_reducible refine k4.out.mono ?_
      rintro e w4 ⟨rfl, b4, c4, hx4, hb4, hu4⟩
      have hu04 : Upd0 w w4 := ((hu1.trans hu2).trans hu3).then hu4 (fun i hi h => by omega)
      have hmod4 := hmod3.keep hu4 (fun k hk h => by omega)
      have HV : X % M < M := Nat.mod_lt _ (by omega)
      go_wp2_with fail
      with_reducible refine (bytes_any _ _ _ (nl M) (X % M) _ mp M w4 hx4 hmod4 HV).mono ?_
      rintro e w5 ⟨a5, c5, rfl, hb5, hu5⟩
      go_wp2_with fail
      with_reducible refine (clone_bs (by omega) hb5).mono ?_
      rintro e w6 ⟨a6, c6, rfl, hb6, hu6⟩
      go_wp2_with fail
      go_ret2
      exact ⟨a6, c6, rfl, hb6, (hu04.trans hu5).trans hu6⟩
    · rw [optN_no (fun h => h2 h.2)]
      go_enter Try.func39, Try.ntmps39
      go_wp2_with fail
      with_reducible refine (iModulus_yes (by omega) hm h1).mono ?_
      rintro e w1 ⟨mp, rfl, hmod, hu1⟩
      go_wp2_with fail
      with_reducible refine (newNat_any w1).mono ?_
      rintro e w2 ⟨rfl, hx2, hu2, hz2⟩
      replace hz2 := Lib.hid hz2
      go_wp2_with fail
      with_reducible refine (cloneN (by omega) ((hx.keep hu1).keep hu2)).mono ?_
      rintro e w3 ⟨a3, c3, rfl, hB3, hnw, hu3⟩
      have hmod3 := (hmod.keep0 hu2).keep0 hu3
      have hne : ∀ x off, a3 = some ⟨x, off, none⟩ → x ≠ w1.heap.size ∧ x ≠ w1.heap.size + 1 ∧ x < w3.heap.size := fun x off h => by
        have h1 := hnw x off h
        have h2 := hz2.out
        omega
      have hz1 := hu1.size
      have hz3 := hz2.out
      have k4 := Lib.hid (natSetOv_no (hx2.keep0 hu3) hmod3 (by omega) (by omega) hB3 (by omega) hne h2)
      go_wp2_with fail
      with_reducible refine k4.out.mono ?_
      rintro e w4 ⟨t, x, rfl, hu4⟩
      have hu04 : Upd0 w w4 := ((hu1.trans hu2).trans hu3).then hu4 (fun i hi h => by omega)
      go_wp2_with fail
      go_ret2
      exact ⟨rfl, hu04⟩
  · rw [optN_no (fun h => h1 h.1)]
    go_enter Try.func39, Try.ntmps39
    go_wp2_with fail
    with_reducible refine (iModulus_no (by omega) hm h1).mono ?_
    rintro e w1 ⟨rfl, hu1⟩
    go_wp2_with fail
    go_ret2
    exact ⟨rfl, hu1⟩
set_option maxRecDepth 100000 in
set_option maxHeartbeats 1000000 in
theorem iInverse_bs {ax am : Option Addr} {nx cx nm cm X M : Nat} {w : World} (hnx : 1 < M → nx ≤ nb M) (hnm : nm ≤ 4000) (hx : Bs w ax nx cx X) (hm : Bs w am nm cm M) :
    Calls Try.prog 26 #[.slice ax nx cx, .slice am nm cm] w (RetOpt w (optN (1 < M ∧ X < M ∧ Nat.gcd X M = 1) M (invN X M))) := by
  by_cases h : 1 < M ∧ X < M
  · obtain ⟨h1, h2⟩ := h
    replace hnx := hnx h1
    have hnbm : nb M ≤ 4000 := Nat.le_trans hm.nb hnm
    by_cases hg : Nat.gcd X M = 1
    · rw [optN_yes ⟨h1, h2, hg⟩]
      have HG := Lib.hid hg
      clear hg
      go_enter Try.func26, Try.ntmps26
      go_wp2_with fail
      with_reducible refine (iWithin_yes hnx (by omega) hx hm h1 h2).mono ?_
      rintro e w1 ⟨p, b, c, mp, s, rfl, hx1, hmod, hsp, hsb, hws, hu1⟩
      go_wp2_with fail
      with_reducible refine (newNat_any w1).mono ?_
      rintro e w2 ⟨rfl, hx2, hu2, hz2⟩
      replace hz2 := Lib.hid hz2
      have hmod2 := hmod.keep0 hu2
      have hx12 := hx1.keep0 hu2
      have hms := hmod.hs
      have hz1 := hu1.size
      have k3 := Lib.hid (natInv_yes hx2 hx12 hmod2 h2 HG.out)
      go_wp2_with fail
      with_reducible refine k3.out.mono ?_
      rintro e w4 ⟨rfl, b4, c4, hx4, hb4, hu4⟩
      have hu04 : Upd0 w w4 := (hu1.trans hu2).then hu4 (fun i hi h => by omega)
      have hmod4 := hmod2.keep hu4 (fun k hk h => by omega)
      have HV : Hid (invN X M < M) := (invN_is h1 h2 HG.out).lt
      have k5 := Lib.hid (bytes_any _ _ _ (nl M) (invN X M) _ mp M w4 hx4 hmod4 HV.out)
      go_wp2_with fail
      with_reducible refine k5.out.mono ?_
      rintro e w5 ⟨a5, c5, rfl, hb5, hu5⟩
      go_wp2_with fail
      with_reducible refine (clone_bs (by omega) hb5).mono ?_
      rintro e w6 ⟨a6, c6, rfl, hb6, hu6⟩
      go_wp2_with fail
      go_ret2
      exact ⟨a6, c6, rfl, hb6, (hu04.trans hu5).trans hu6⟩
    · rw [optN_no (fun h => hg h.2.2)]
      have HG := Lib.hid hg
      clear hg
      go_enter Try.func26, Try.ntmps26
      go_wp2_with fail
      with_reducible refine (iWithin_yes hnx (by omega) hx hm h1 h2).mono ?_
      rintro e w1 ⟨p, b, c, mp, s, rfl, hx1, hmod, hsp, hsb, hws, hu1⟩
      go_wp2_with fail
      with_reducible refine (newNat_any w1).mono ?_
      rintro e w2 ⟨rfl, hx2, hu2, hz2⟩
      replace hz2 := Lib.hid hz2
      have hmod2 := hmod.keep0 hu2
      have hx12 := hx1.keep0 hu2
      have hms := hmod.hs
      have hz1 := hu1.size
      have k3 := Lib.hid (natInv_no (p := w1.heap.size + 1) hx12 hmod2 HG.out)
      go_wp2_with fail
      with_reducible refine k3.out.mono ?_
      rintro e w4 ⟨rfl, hu4⟩
      go_wp2_with fail
      go_ret2
      exact ⟨rfl, (hu1.trans hu2).trans hu4⟩
  · rw [optN_no (fun h' => h ⟨h'.1, h'.2.1⟩)]
    go_enter Try.func26, Try.ntmps26
    go_wp2_with fail
    with_reducible refine (iWithin_no hnx (by omega) hx hm h).mono ?_
    rintro e w1 ⟨x, y, rfl, hu1⟩
    go_wp2_with fail
    go_ret2
    exact ⟨rfl, hu1⟩
end Go.Proofs.Ytpojonfopoobpaa
