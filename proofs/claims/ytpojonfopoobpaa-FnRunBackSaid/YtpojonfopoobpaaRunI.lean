/-
  Contracts: impl.Run, spec.Run.
-/
import Derived.Test.YtpojonfopoobpaaRunP
namespace Go.Proofs.Ytpojonfopoobpaa
open Go.RowKit

/-- impl.Run's loop: j steps are done, k are left. -/
def RunIt (w : World) (p s mp M X L : Nat) (K : Nat → Int) (A : Nat → Nat) (k : Nat) (i : Value) (wr : World) : Prop :=
  ∃ j Y b c, j + k = L ∧ i = .int .i64 (j : Nat) ∧ Hid (runN M K A X j = some Y) ∧ Y < M ∧ NatAt wr p b c (nl M) Y ∧ ModAt wr s mp (nl M) M ∧ s ≤ b ∧ Upd0 w wr
/-- What Run returns. -/
noncomputable def runO (M : Nat) (K : Nat → Int) (A : Nat → Nat) (X L : Nat) : Option (Nat × Nat) := (runN M K A X L).map fun Y => (nb M, Y)
theorem runO_some {M X L Y : Nat} {K : Nat → Int} {A : Nat → Nat} (h : runN M K A X L = some Y) : runO M K A X L = some (nb M, Y) := by unfold runO; rw [h]; rfl
theorem runO_none {M X L j : Nat} {K : Nat → Int} {A : Nat → Nat} (h : runN M K A X j = none) (hj : j ≤ L) : runO M K A X L = none := by unfold runO; rw [runN_none h hj]; rfl
/-- At a call: what is known of the world. -/
theorem at_world {P : Program} {f : Nat} {args : Array Value} {w : World} {Q : Ending → World → Prop} (R : World → Prop) (hR : R w) (h : ∀ w', R w' → Calls P f args w' Q) : Calls P f args w Q := h w hR
/-- A struct of two cells in a block of its own. -/
theorem boxed (w : World) (v0 v1 : Value) (t : Nat) : Upd0 w (w.alloc (.cells #[v0, v1] t)) ∧ (w.alloc (.cells #[v0, v1] t)).cell? ⟨w.heap.size, 0, none⟩ = some v0 ∧ (w.alloc (.cells #[v0, v1] t)).cell? ⟨w.heap.size, 1, none⟩ = some v1 :=
  ⟨(Upd.refl _ _).alloc _, by rw [World.cell?_alloc_new]; rfl, by rw [World.cell?_alloc_new]; rfl⟩
set_option maxRecDepth 100000 in
set_option maxHeartbeats 1000000 in
theorem iRun_yes {ax am st : Option Addr} {nx cx nm cm L cs X M : Nat} {K : Nat → Int} {na A : Nat → Nat} {w : World} (hnx : nx ≤ nb M) (hL : L ≤ 1000000) (hnm : nm ≤ 4000) (hx : Bs w ax nx cx X) (hm : Bs w am nm cm M) (hst : Steps w st L K na A) (hok : ∀ i, i < L → K i ≠ 8 ∧ (K i ≠ 5 → na i ≤ nb M) ∧ na i ≤ 4000) (h1 : 1 < M) (h2 : X < M) :
    Calls Try.prog 23 #[.slice ax nx cx, .slice am nm cm, .slice st L cs] w (RetOpt w (runO M K A X L)) := by
  have hnbm : nb M ≤ 4000 := Nat.le_trans hm.nb hnm
  have hl := nb_le_limbs M
  go_enter Try.func23, Try.ntmps23
  go_wp2_with fail
  with_reducible refine (iWithin_yes hnx (by omega) hx hm h1 h2).mono ?_
  rintro e w1 ⟨p, b, c, mp, s, rfl, hx1, hmod, hsp, hsb, hws, hu1⟩
  go_wp2_with fail
  go_loopg [6, 7, 25] L (fun k r0 r1 i wr => RunIt w p s mp M X L K A k i wr)
  case atStart => exact ⟨0, X, b, c, by omega, rfl, rfl, h2, hx1, hmod, hsb, hu1⟩
  case round =>
    clear hx1 hmod hsb hu1
    obtain ⟨j, Y, b', c', hj, rfl, hr, hY, hx2, hmod2, hsb2, hu⟩ := hrel
    have hst2 := hst.keep hu
    by_cases hlt : j < L
    · obtain ⟨sb, off, aa, ca, hst', hc0, hc1, hB⟩ := hst2 j hlt
      subst hst'
      obtain ⟨h8, hna, hna2⟩ := hok j hlt
      have HNX : Hid (runN M K A X (j + 1) = stepN M Y (A j) (K j)) := runN_some hr.out
      obtain ⟨z, Hz⟩ : ∃ z, z = K j := ⟨_, rfl⟩
      obtain ⟨B, HB⟩ : ∃ B, B = A j := ⟨_, rfl⟩
      obtain ⟨nn, Hn⟩ : ∃ n, n = na j := ⟨_, rfl⟩
      rw [← Hz] at hc0 h8 hna HNX
      rw [← Hn] at hc1 hna hna2 hB
      rw [← HB] at hB HNX
      clear Hz Hn HB hst2
      have hmsz := hmod2.hs
      have lp2 := hx2.hp
      have lb2 := hx2.hb
      by_cases h5 : z = 5
      · subst h5
        by_cases ho : M % 2 = 1
        · have HN : Hid (runN M K A X (j + 1) = some (Y ^ B % M)) := by show _ = _; rw [HNX.out]; unfold stepN; rw [if_pos rfl, if_pos ho]
          have HO := Lib.hid ho
          clear ho HNX
          go_wp2_with fail
          refine at_world (fun W => Upd0 wr W ∧ W.cell? ⟨wr.heap.size, 0, none⟩ = some (.int .i64 5) ∧ W.cell? ⟨wr.heap.size, 1, none⟩ = some (.slice aa nn ca)) (boxed _ _ _ _) ?_
          rintro W ⟨uW, hk0, hk1⟩
          with_reducible refine (iodd_yes (by omega) (hm.keep (hu.trans uW)) HO.out).mono ?_
          rintro e w2 ⟨rfl, hu20⟩
          have hu2 := uW.trans hu20
          replace hk0 := hu20.cell (p := ⟨wr.heap.size, 0, none⟩) id hk0
          replace hk1 := hu20.cell (p := ⟨wr.heap.size, 1, none⟩) id hk1
          clear hu20 uW
          go_wp2_with fail
          with_reducible refine (cloneN (by omega) (hB.keep hu2)).mono ?_
          rintro e w4 ⟨a4, c9, rfl, hB4, hnw, hu4⟩
          have hz2 := hu2.size
          obtain ⟨f, hf, hs4, HBf⟩ := hB4
          have hx4 := (hx2.keep0 hu2).keep0 hu4
          have k5 := exp_any hx4 hx4 ((hmod2.keep0 hu2).keep0 hu4) HO.out hY hsp hsb2 (by omega) hf hs4 (fun x off h => by have := hnw x off h; omega)
          rw [HBf] at k5
          replace k5 := Lib.hid k5
          clear HBf hf hs4
          go_wp2_with fail
          with_reducible refine k5.out.mono ?_
          rintro e w5 ⟨rfl, b5, c5, hx5, hb5, hu5⟩
          have hu24 : Upd0 w w5 := ((hu.trans hu2).trans hu4).then hu5 (fun i hi h => by omega)
          have hmod5 := ((hmod2.keep0 hu2).keep0 hu4).keep hu5 (fun k hk h => by omega)
          have hz4 := hu4.size
          go_wp2_with fail
          go_roundg (L - (j + 1))
          case measure => omega
          case rel => exact ⟨j + 1, Y ^ B % M, b5, c5, by omega, by go_num, HN, Nat.mod_lt _ (by omega), hx5, hmod5, by rcases hb5 with h | h <;> omega, hu24⟩
        · have HN : Hid (runN M K A X (j + 1) = none) := by show _ = _; rw [HNX.out]; unfold stepN; rw [if_pos rfl, if_neg ho]
          have HO := Lib.hid ho
          clear ho HNX
          go_wp2_with fail
          refine at_world (fun W => Upd0 wr W ∧ W.cell? ⟨wr.heap.size, 0, none⟩ = some (.int .i64 5) ∧ W.cell? ⟨wr.heap.size, 1, none⟩ = some (.slice aa nn ca)) (boxed _ _ _ _) ?_
          rintro W ⟨uW, hk0, hk1⟩
          with_reducible refine (iodd_no (by omega) (hm.keep (hu.trans uW)) HO.out).mono ?_
          rintro e w2 ⟨rfl, hu20⟩
          have hu2 := uW.trans hu20
          clear hu20 uW hk0 hk1
          go_wp2_with fail
          go_ret2
          exact (show RetOpt w _ _ _ from by rw [runO_none (j := j + 1) HN.out (by omega)]; exact ⟨rfl, hu.trans hu2⟩)
      · have kW := fun (W : World) (u : Upd0 wr W) => withArg_any (z := z) (hx2.keep0 u) (hmod2.keep0 u) hY hsp hsb2 (by have := hna h5; omega) (hB.keep u) h8
        have HE : Hid (stepN M Y B z = stpN M Y B z) := by show _ = _; unfold stepN; rw [if_neg h5]
        have f5 : (z == 5) = false := beq_eq_false_iff_ne.2 h5
        have g5 : (z != 5) = true := bne_iff_ne.2 h5
        cases hs : stpN M Y B z with
        | none =>
          have HN : Hid (runN M K A X (j + 1) = none) := by show _ = _; rw [HNX.out, HE.out, hs]
          rw [hs] at kW
          replace kW := Lib.hid kW
          clear hs HE HNX h5 hna h8
          go_wp2_with fail
          refine at_world (fun W => Upd0 wr W ∧ W.cell? ⟨wr.heap.size, 0, none⟩ = some (.int .i64 z) ∧ W.cell? ⟨wr.heap.size, 1, none⟩ = some (.slice aa nn ca)) (boxed _ _ _ _) ?_
          rintro W ⟨uW, hk0, hk1⟩
          with_reducible refine (kW.out _ uW).mono ?_
          rintro e w3 ⟨rfl, hu3⟩
          have hzW := uW.size
          have hu03 : Upd0 w w3 := (hu.trans uW).then hu3 (fun i hi h => by omega)
          go_wp2_with fail
          go_ret2
          exact (show RetOpt w _ _ _ from by rw [runO_none (j := j + 1) HN.out (by omega)]; exact ⟨rfl, hu03⟩)
        | some Y2 =>
          have HN : Hid (runN M K A X (j + 1) = some Y2) := by show _ = _; rw [HNX.out, HE.out, hs]
          have hY2 := stpN_lt h1 hY hs
          rw [hs] at kW
          replace kW := Lib.hid kW
          clear hs HE HNX h5 hna h8
          go_wp2_with fail
          refine at_world (fun W => Upd0 wr W ∧ W.cell? ⟨wr.heap.size, 0, none⟩ = some (.int .i64 z) ∧ W.cell? ⟨wr.heap.size, 1, none⟩ = some (.slice aa nn ca)) (boxed _ _ _ _) ?_
          rintro W ⟨uW, hk0, hk1⟩
          with_reducible refine (kW.out _ uW).mono ?_
          rintro e w3 ⟨rfl, b3, c3, hx3, hb3, hu3⟩
          have hzW := uW.size
          have hu03 : Upd0 w w3 := (hu.trans uW).then hu3 (fun i hi h => by omega)
          have hmod3 := (hmod2.keep0 uW).keep hu3 (fun k hk h => by omega)
          go_wp2_with fail
          go_roundg (L - (j + 1))
          case measure => omega
          case rel => exact ⟨j + 1, Y2, b3, c3, by omega, by go_num, HN, hY2, hx3, hmod3, by rcases hb3 with h | h <;> omega, hu03⟩
    · obtain rfl : j = L := by omega
      go_wp2_with fail
      with_reducible refine (bytes_any _ _ _ (nl M) Y _ mp M wr hx2 hmod2 hY).mono ?_
      rintro e w5 ⟨a5, c5, rfl, hb5, hu6⟩
      go_wp2_with fail
      with_reducible refine (clone_bs (by omega) hb5).mono ?_
      rintro e w6 ⟨a6, c6, rfl, hb6, hu7⟩
      go_wp2_with fail
      go_ret2
      exact (show RetOpt w _ _ _ from by rw [runO_some hr.out]; exact ⟨a6, c6, rfl, hb6, (hu.trans hu6).trans hu7⟩)
set_option maxRecDepth 100000 in
set_option maxHeartbeats 1000000 in
theorem iRun_no {ax am st : Option Addr} {nx cx nm cm L cs X M : Nat} {w : World} (hnx : 1 < M → nx ≤ nb M) (hnm : nm ≤ 4000) (hx : Bs w ax nx cx X) (hm : Bs w am nm cm M) (h : ¬ (1 < M ∧ X < M)) :
    Calls Try.prog 23 #[.slice ax nx cx, .slice am nm cm, .slice st L cs] w (RetOpt w none) := by
  go_enter Try.func23, Try.ntmps23
  go_wp2_with fail
  with_reducible refine (iWithin_no hnx (by omega) hx hm h).mono ?_
  rintro e w1 ⟨x, y, rfl, hu1⟩
  go_wp2_with fail
  go_ret2
  exact ⟨rfl, hu1⟩
/-- spec.Run's loop. -/
def RunSt (w : World) (M X L : Nat) (K : Nat → Int) (A : Nat → Nat) (k : Nat) (o b i : Value) (wr : World) : Prop :=
  (∃ j Y a c, j + k = L + 1 ∧ 0 < k ∧ i = .int .i64 (j : Nat) ∧ b = .bool true ∧ o = .slice a (nb M) c ∧ Hid (runN M K A X j = some Y) ∧ Y < M ∧ Bs wr a (nb M) c Y ∧ Upd0 w wr) ∨
  (k = 0 ∧ b = .bool false ∧ (∃ j : Nat, i = .int .i64 j) ∧ o = .slice none 0 0 ∧ Hid (runO M K A X L = none) ∧ Upd0 w wr)
end Go.Proofs.Ytpojonfopoobpaa
