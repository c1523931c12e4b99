/-
  Contracts: NewModulusProduct, impl.ModulusProduct.
-/
import Derived.Test.YtpojonfopoobpaaMulI
import Derived.Test.YtpojonfopoobpaaPrd
import Derived.Deep.DeepCutAuto
import Derived.Deep.CutBlock
import Derived.Deep.RegionHeld3
namespace Go.Proofs.Ytpojonfopoobpaa
open Go.RowKit

theorem blen_mul_le (A B : Nat) : blen (A * B) ≤ blen A + blen B := by
  rw [blen_le_iff, Nat.pow_add]
  exact Nat.mul_lt_mul'' (lt_two_pow_blen A) (lt_two_pow_blen B)
theorem nb_mul_le (A B : Nat) : nb (A * B) ≤ nb A + nb B := by
  rw [nb_le_iff, Nat.pow_add]
  exact Nat.mul_lt_mul'' (lt_pow_nb A) (lt_pow_nb B)
theorem nl_mul_lt {A B : Nat} : A * B < W64 ^ (nl A + nl B) := by
  rw [Nat.pow_add]
  exact Nat.mul_lt_mul'' (lt_pow_nl A) (lt_pow_nl B)
/-- The number n behind j rows. -/
def PrAt (w : World) (pn bn cn N P : Nat) (wx : World) : Prop := NatAt wx pn bn cn N P ∧ Upd (fun k => k = bn) w wx
set_option maxRecDepth 100000 in
set_option maxHeartbeats 4000000 in
theorem newPrd_yes {aa ab : Option Addr} {la ca lb cb A B : Nat} {w : World} (hla : la ≤ 4000) (hlb : lb ≤ 4000) (hA : Bs w aa la ca A) (hB : Bs w ab lb cb B) (hA0 : 0 < A) (_hB0 : 0 < B) (hM : 1 < A * B) :
    Calls Try.prog 65 #[.slice aa la ca, .slice ab lb cb] w (RetMod w (A * B)) := by
  have hnl : nl (A * B) ≤ 16384 := by
    have h1 := hA.blen
    have h2 := hB.blen
    have h3 := blen_mul_le A B
    unfold nl; omega
  have hnA : nl A ≤ 1000 := by have h1 := hA.blen; unfold nl; omega
  have hnB : nl B ≤ 1000 := by have h1 := hB.blen; unfold nl; omega
  have hpA := nl_pos (X := A) (by omega)
  have HPL := Lib.hid (nl_mul_lt (A := A) (B := B))
  have HlA := Lib.hid (lt_pow_nl A)
  have HlB := Lib.hid (lt_pow_nl B)
  obtain ⟨nx, Hnx⟩ : ∃ nx, Hid (nx = nl A) := ⟨_, rfl⟩
  obtain ⟨ny, Hny⟩ : ∃ ny, Hid (ny = nl B) := ⟨_, rfl⟩
  obtain ⟨f, hf, hs, HBA⟩ := hA
  obtain ⟨g, hg, ht, HBB⟩ := hB
  replace HBA := Lib.hid HBA
  replace HBB := Lib.hid HBB
  rw [← Hnx.out] at hnA hpA HPL HlA
  rw [← Hny.out] at hnB HPL HlB
  have HMM : Hid (1 < A * B) := hM
  clear hM
  go_enter Try.func65, Try.ntmps65
  go_wp2_with fail
  obtain ⟨px, Hpx⟩ : ∃ q, Hid (q = w.heap.size + 1) := ⟨_, rfl⟩
  obtain ⟨b1, Hb1⟩ : ∃ q, Hid (q = w.heap.size) := ⟨_, rfl⟩
  have hpxa := Nat.le_of_eq Hpx.out
  have hpxb := Nat.le_of_eq Hpx.out.symm
  have hb1a := Nat.le_of_eq Hb1.out
  have hb1b := Nat.le_of_eq Hb1.out.symm
  with_reducible refine (newNat_at w px b1 Hpx.out Hb1.out).mono ?_
  rintro e w1 ⟨rfl, hx1, hu1, hz1⟩
  replace hz1 := Nat.le_of_eq hz1.out.symm
  have k1 := resetToBytes_any px b1 32 0 0 aa la ca f w1 hx1 (by omega) hf (hs.keep hu1) (fun h0 x off h => by have := hs.blk h0 h; omega)
  rw [HBA.out, ← Hnx.out] at k1
  replace k1 := Lib.hid k1
  go_wp2_with fail
  with_reducible refine k1.out.mono ?_
  rintro e w2 ⟨rfl, bx, cx, hx2, hbx, hu2⟩
  replace hbx : bx = b1 ∨ w1.heap.size ≤ bx := hbx
  have hu02 : Upd0 w w2 := hu1.then hu2 (fun i hi h => by omega)
  have hz2 := hu02.size
  have hlx := hx2.hp
  have hlbx := hx2.hb
  clear hx1 hu2 k1
  go_wp2_with fail
  obtain ⟨py, Hpy⟩ : ∃ q, Hid (q = w2.heap.size + 1) := ⟨_, rfl⟩
  obtain ⟨b3, Hb3⟩ : ∃ q, Hid (q = w2.heap.size) := ⟨_, rfl⟩
  have hpya := Nat.le_of_eq Hpy.out
  have hpyb := Nat.le_of_eq Hpy.out.symm
  have hb3a := Nat.le_of_eq Hb3.out
  have hb3b := Nat.le_of_eq Hb3.out.symm
  with_reducible refine (newNat_at w2 py b3 Hpy.out Hb3.out).mono ?_
  rintro e w3 ⟨rfl, hy3, hu3, hz3⟩
  replace hz3 := Nat.le_of_eq hz3.out.symm
  have hu03 := hu02.trans hu3
  have k2 := resetToBytes_any py b3 32 0 0 ab lb cb g w3 hy3 (by omega) hg (ht.keep hu03) (fun h0 x off h => by have := ht.blk h0 h; omega)
  rw [HBB.out, ← Hny.out] at k2
  replace k2 := Lib.hid k2
  go_wp2_with fail
  with_reducible refine k2.out.mono ?_
  rintro e w4 ⟨rfl, by', cy, hy4, hby, hu4⟩
  replace hby : by' = b3 ∨ w3.heap.size ≤ by' := hby
  have hx4 := (hx2.keep0 hu3).keep hu4 (by omega) (by omega)
  have hu04 : Upd0 w w4 := hu03.then hu4 (fun i hi h => by omega)
  have hz4 := hu4.size
  have hly := hy4.hp
  have hlby := hy4.hb
  clear hy3 hu3 hu4 k2 hx2 hu02 hu03
  have lx := hx4.le
  have ly := hy4.le
  have sx := hx4.sm
  have sy := hy4.sm
  obtain ⟨nn, Hnn⟩ : ∃ nn, Hid (nn = nx + ny) := ⟨_, rfl⟩
  have hnn := Nat.le_of_eq Hnn.out
  have hnn2 := Nat.le_of_eq Hnn.out.symm
  go_upto_region 3 with fail
  go_cut [8] (fun t wx => FreshNum w4 nn 0 t wx)
  case first =>
    have ew : IntKind.i64.wrap ((nx : Int) + (ny : Int)) = ((nn : Nat) : Int) := by rw [Hnn.out, w64 _ (by omega) (by omega)]; simp
    go_wp2_with fail
    have hxc := hx4.hd
    have hyc := hy4.hd
    have hnew := newNat_drew w4
    replace hnew := Lib.hid hnew
    have hS : Hid (∀ w1, Upd0 w4 w1 → w1.cell? ⟨px, 0, none⟩ = some (.slice (some ⟨bx, 0, none⟩) nx cx) ∧ w1.cell? ⟨py, 0, none⟩ = some (.slice (some ⟨by', 0, none⟩) ny cy)) := fun w1 h => ⟨h.cell (p := ⟨px, 0, none⟩) id hxc, h.cell (p := ⟨py, 0, none⟩) id hyc⟩
    go_region_held3 (fun w1 => w1.cell? ⟨px, 0, none⟩ = some (.slice (some ⟨bx, 0, none⟩) nx cx) ∧ w1.cell? ⟨py, 0, none⟩ = some (.slice (some ⟨by', 0, none⟩) ny cy)) (first | exact hS.out _ ((Upd.refl _ _).drew) | exact hS.out _ hun | exact hS.out _ hup2) (first | (go_at_call 59; with_reducible refine hnew.out.mono ?_; rintro e wn ⟨rfl, hxn, hun, hzn⟩; have hres := reset_any _ _ _ _ _ nn wn hxn (by omega); replace hres := Lib.hid hres) | (go_at_call 105; with_reducible refine hres.out.mono ?_; rintro e wr2 ⟨rfl, br2, cr2, hxr2, hbr2, hur2⟩; have hup2 : Upd0 w4 wr2 := hun.then hur2 (fun i hi h => by have := hzn.out; omega)))
    all_goals (go_wp2_with fail; go_meet; exact fresh_reset (w := w4) hzn.out hun hxr2 hbr2 hur2)
  case rest =>
    obtain ⟨pn, bn, cn, rfl, hn5, gp, gb, lp5, lb5, hu5⟩ := hcut
    have hx5 := hx4.keep0 hu5
    have hy5 := hy4.keep0 hu5
    have hu05 := hu04.trans hu5
    clear hx4 hy4 hu5 hu04
    generalize wc = w5 at *
    have hyc := hy5.hd
    rw [← prN_zero A B] at hn5
    go_wp2_with fail
    clear hyc
    go_loopw [34] (fun i wr => ∃ j : Nat, j ≤ ny ∧ i = .int .i64 j ∧ PrAt w5 pn bn cn nn (prN A B j) wr) (fun i _ => ny - (intOf i).toNat)
    case atStart => exact ⟨0, by omega, rfl, hn5, .refl _ _⟩
    case round =>
      clear hn5
      obtain ⟨j, hj, rfl, hn, hu⟩ := hrel
      have ln := hn.le
      have sn := hn.sm
      have hxr := hx5.keep hu (by omega) (by omega)
      have hyr := hy5.keep hu (by omega) (by omega)
      by_cases hlt : j < ny
      · obtain ⟨d, hd1, hd, HD⟩ := hyr.limb hlt
        have hnc := hn.hd
        have hxc := hxr.hd
        have hyc := hyr.hd
        have i1 : (j : Int) < (ny : Int) := by omega
        have i2 : (0 : Int) ≤ (j : Int) := by omega
        have i3 : ((j : Int)).toNat = j := by omega
        have i4 : (j : Int) ≤ (j : Int) + (nx : Int) := by omega
        have i5 : (j : Int) + (nx : Int) ≤ (cn : Int) := by omega
        have i6 : (j : Int) + (nx : Int) < (nn : Int) := by omega
        have i8 : (0 : Int) ≤ (j : Int) + (nx : Int) := by omega
        have hcall := addMul_any bn nn j nx (cn - j) bx nx cx d (dg W64 (prN A B j)) (dg W64 A) wr.drew hn.own.drew (fun i _ => limb_lt _ _) (by omega) (by omega) (by omega) hxr.drew.own (Nat.le_refl _) (by omega) (fun i _ => limb_lt _ _) (by omega) hd
        rw [HD.out, prN_row B j HlA.out, ← HD.out] at hcall
        replace hcall := Lib.hid hcall
        obtain ⟨v, Hv⟩ : ∃ v, Hid (v = prN A B (j + 1) / W64 ^ j / W64 ^ nx) := ⟨_, rfl⟩
        rw [← Hv.out] at hcall
        have HLT : Hid (prN A B (j + 1) < W64 ^ nn) := Nat.lt_of_lt_of_le (prN_lt B (j + 1) HlA.out) (Nat.pow_le_pow_right W64_pos (by omega))
        have hfin : Hid (∀ w1, Wrote wr.drew w1 bn nn (fun i => if j ≤ i ∧ i < j + nx then dg W64 (prN A B (j + 1) / W64 ^ j) (i - j) else dg W64 (prN A B j) i) → PrAt w5 pn bn cn nn (prN A B (j + 1)) (w1.setCell ⟨bn, j + nx, none⟩ (.int .u64 (v : Nat)))) := fun w1 hw1 => by
          have h1 := hw1.set (show j + nx < nn by omega) v rfl
          exact ⟨hn.drew.wrote (h1.congr fun i _ => by rw [← prN_dg B j i HlA.out, Hv.out, Nat.add_comm j nx]) HLT.out, hu.drew.trans h1.upd⟩
        have hne : pn ≠ bn ∧ px ≠ bn ∧ py ≠ bn ∧ by' ≠ bn := by have := hn.ne; omega
        have hS : Hid (∀ w1, Upd (fun k => k = bn) wr.drew w1 → w1.cell? ⟨pn, 0, none⟩ = some (.slice (some ⟨bn, 0, none⟩) nn cn) ∧ w1.cell? ⟨px, 0, none⟩ = some (.slice (some ⟨bx, 0, none⟩) nx cx) ∧ w1.cell? ⟨py, 0, none⟩ = some (.slice (some ⟨by', 0, none⟩) ny cy) ∧ w1.cell? ⟨by', j, none⟩ = some (.int .u64 (d : Nat))) := fun w1 h =>
          ⟨h.cell (p := ⟨pn, 0, none⟩) hne.1 hn.drew.hd, h.cell (p := ⟨px, 0, none⟩) hne.2.1 hxr.drew.hd, h.cell (p := ⟨py, 0, none⟩) hne.2.2.1 hyr.drew.hd, h.cell (p := ⟨by', j, none⟩) hne.2.2.2 hd1⟩
        have hlim : Hid (j + nx < nn) := by show _ < _; omega
        have e1 := w64 ((j : Int) + (nx : Int)) (by omega) (by omega)
        have e2 : ((j : Int) + (nx : Int)).toNat = j + nx := by omega
        have e3 : j + nx - j = nx := by omega
        have e4 : ¬ cn = j := by omega
        clear hn hu hxr hyr Hv HD HLT
        go_upto_block 1 with fail
        go_cut [] (fun wx => PrAt w5 pn bn cn nn (prN A B (j + 1)) wx)
        case first =>
          go_wp2_with fail
          go_region_held3 (fun w1 => w1.cell? ⟨pn, 0, none⟩ = some (.slice (some ⟨bn, 0, none⟩) nn cn) ∧ w1.cell? ⟨px, 0, none⟩ = some (.slice (some ⟨bx, 0, none⟩) nx cx) ∧ w1.cell? ⟨py, 0, none⟩ = some (.slice (some ⟨by', 0, none⟩) ny cy) ∧ w1.cell? ⟨by', j, none⟩ = some (.int .u64 (d : Nat))) (first | exact hS.out _ (.refl _ _) | exact hS.out _ hup1 | exact hS.out _ (hup2.out _)) (first | (go_at_call 106; with_reducible refine hcall.out.mono ?_; rintro e w1 ⟨rfl, hw1⟩; have hup1 := hw1.upd; have hup2 := Lib.hid (fun u => hup1.setCell ⟨bn, j + nx, none⟩ u (fun _ => rfl)); have hc3 := hw1.own.cell (j + nx) hlim.out; have hf3 := hw1.own.free (j + nx) hlim.out; replace hw1 := Lib.hid hw1))
          all_goals (go_wp2_with fail; go_meet)
          all_goals exact hfin.out _ hw1.out
        case rest =>
          clear e1 e2 e3 e4 hfin hcall hd1 hnc hxc hyc hS
          go_wp2_with fail
          go_roundw
          case rel => exact ⟨j + 1, by omega, by go_num, hcut⟩
          case measure => simp [intOf]; omega
      · obtain rfl : j = ny := by omega
        rw [prN_all HlB.out] at hn
        clear hxr hyr
        have k7 := Lib.hid (trim_any pn bn cn nn (A * B) wr hn)
        go_wp2_with fail
        with_reducible refine k7.out.mono ?_
        rintro e w7 ⟨rfl, hx7, hu7⟩
        have hu07 : Upd0 w w7 := (hu05.then hu (fun i hi h => by omega)).then hu7 (fun i hi h => by omega)
        have k8 := Lib.hid (newModulus_yes _ bn cn (A * B) w7 hx7 HMM.out hnl)
        go_wp2_with fail
        with_reducible refine k8.out.mono ?_
        rintro e w8 ⟨mp, rfl, hmod, hu8⟩
        go_wp2_with fail
        go_ret2
        exact ⟨mp, rfl, hmod, hu07.trans hu8⟩
set_option maxRecDepth 100000 in
set_option maxHeartbeats 4000000 in
theorem newPrd_no {aa ab : Option Addr} {la ca lb cb A B : Nat} {w : World} (hla : la ≤ 4000) (hlb : lb ≤ 4000) (hA : Bs w aa la ca A) (hB : Bs w ab lb cb B) (hA0 : 0 < A) (_hB0 : 0 < B) (hM : ¬ 1 < A * B) :
    Calls Try.prog 65 #[.slice aa la ca, .slice ab lb cb] w (RetNoMod w) := by
  have hnl : nl (A * B) ≤ 16384 := by
    have h1 := hA.blen
    have h2 := hB.blen
    have h3 := blen_mul_le A B
    unfold nl; omega
  have hnA : nl A ≤ 1000 := by have h1 := hA.blen; unfold nl; omega
  have hnB : nl B ≤ 1000 := by have h1 := hB.blen; unfold nl; omega
  have hpA := nl_pos (X := A) (by omega)
  have HPL := Lib.hid (nl_mul_lt (A := A) (B := B))
  have HlA := Lib.hid (lt_pow_nl A)
  have HlB := Lib.hid (lt_pow_nl B)
  obtain ⟨nx, Hnx⟩ : ∃ nx, Hid (nx = nl A) := ⟨_, rfl⟩
  obtain ⟨ny, Hny⟩ : ∃ ny, Hid (ny = nl B) := ⟨_, rfl⟩
  obtain ⟨f, hf, hs, HBA⟩ := hA
  obtain ⟨g, hg, ht, HBB⟩ := hB
  replace HBA := Lib.hid HBA
  replace HBB := Lib.hid HBB
  rw [← Hnx.out] at hnA hpA HPL HlA
  rw [← Hny.out] at hnB HPL HlB
  have HMM : Hid (¬ 1 < A * B) := hM
  clear hM
  go_enter Try.func65, Try.ntmps65
  go_wp2_with fail
  obtain ⟨px, Hpx⟩ : ∃ q, Hid (q = w.heap.size + 1) := ⟨_, rfl⟩
  obtain ⟨b1, Hb1⟩ : ∃ q, Hid (q = w.heap.size) := ⟨_, rfl⟩
  have hpxa := Nat.le_of_eq Hpx.out
  have hpxb := Nat.le_of_eq Hpx.out.symm
  have hb1a := Nat.le_of_eq Hb1.out
  have hb1b := Nat.le_of_eq Hb1.out.symm
  with_reducible refine (newNat_at w px b1 Hpx.out Hb1.out).mono ?_
  rintro e w1 ⟨rfl, hx1, hu1, hz1⟩
  replace hz1 := Nat.le_of_eq hz1.out.symm
  have k1 := resetToBytes_any px b1 32 0 0 aa la ca f w1 hx1 (by omega) hf (hs.keep hu1) (fun h0 x off h => by have := hs.blk h0 h; omega)
  rw [HBA.out, ← Hnx.out] at k1
  replace k1 := Lib.hid k1
  go_wp2_with fail
  with_reducible refine k1.out.mono ?_
  rintro e w2 ⟨rfl, bx, cx, hx2, hbx, hu2⟩
  replace hbx : bx = b1 ∨ w1.heap.size ≤ bx := hbx
  have hu02 : Upd0 w w2 := hu1.then hu2 (fun i hi h => by omega)
  have hz2 := hu02.size
  have hlx := hx2.hp
  have hlbx := hx2.hb
  clear hx1 hu2 k1
  go_wp2_with fail
  obtain ⟨py, Hpy⟩ : ∃ q, Hid (q = w2.heap.size + 1) := ⟨_, rfl⟩
  obtain ⟨b3, Hb3⟩ : ∃ q, Hid (q = w2.heap.size) := ⟨_, rfl⟩
  have hpya := Nat.le_of_eq Hpy.out
  have hpyb := Nat.le_of_eq Hpy.out.symm
  have hb3a := Nat.le_of_eq Hb3.out
  have hb3b := Nat.le_of_eq Hb3.out.symm
  with_reducible refine (newNat_at w2 py b3 Hpy.out Hb3.out).mono ?_
  rintro e w3 ⟨rfl, hy3, hu3, hz3⟩
  replace hz3 := Nat.le_of_eq hz3.out.symm
  have hu03 := hu02.trans hu3
  have k2 := resetToBytes_any py b3 32 0 0 ab lb cb g w3 hy3 (by omega) hg (ht.keep hu03) (fun h0 x off h => by have := ht.blk h0 h; omega)
  rw [HBB.out, ← Hny.out] at k2
  replace k2 := Lib.hid k2
  go_wp2_with fail
  with_reducible refine k2.out.mono ?_
  rintro e w4 ⟨rfl, by', cy, hy4, hby, hu4⟩
  replace hby : by' = b3 ∨ w3.heap.size ≤ by' := hby
  have hx4 := (hx2.keep0 hu3).keep hu4 (by omega) (by omega)
  have hu04 : Upd0 w w4 := hu03.then hu4 (fun i hi h => by omega)
  have hz4 := hu4.size
  have hly := hy4.hp
  have hlby := hy4.hb
  clear hy3 hu3 hu4 k2 hx2 hu02 hu03
  have lx := hx4.le
  have ly := hy4.le
  have sx := hx4.sm
  have sy := hy4.sm
  obtain ⟨nn, Hnn⟩ : ∃ nn, Hid (nn = nx + ny) := ⟨_, rfl⟩
  have hnn := Nat.le_of_eq Hnn.out
  have hnn2 := Nat.le_of_eq Hnn.out.symm
  go_upto_region 3 with fail
  go_cut [8] (fun t wx => FreshNum w4 nn 0 t wx)
  case first =>
    have ew : IntKind.i64.wrap ((nx : Int) + (ny : Int)) = ((nn : Nat) : Int) := by rw [Hnn.out, w64 _ (by omega) (by omega)]; simp
    go_wp2_with fail
    have hxc := hx4.hd
    have hyc := hy4.hd
    have hnew := newNat_drew w4
    replace hnew := Lib.hid hnew
    have hS : Hid (∀ w1, Upd0 w4 w1 → w1.cell? ⟨px, 0, none⟩ = some (.slice (some ⟨bx, 0, none⟩) nx cx) ∧ w1.cell? ⟨py, 0, none⟩ = some (.slice (some ⟨by', 0, none⟩) ny cy)) := fun w1 h => ⟨h.cell (p := ⟨px, 0, none⟩) id hxc, h.cell (p := ⟨py, 0, none⟩) id hyc⟩
    go_region_held3 (fun w1 => w1.cell? ⟨px, 0, none⟩ = some (.slice (some ⟨bx, 0, none⟩) nx cx) ∧ w1.cell? ⟨py, 0, none⟩ = some (.slice (some ⟨by', 0, none⟩) ny cy)) (first | exact hS.out _ ((Upd.refl _ _).drew) | exact hS.out _ hun | exact hS.out _ hup2) (first | (go_at_call 59; with_reducible refine hnew.out.mono ?_; rintro e wn ⟨rfl, hxn, hun, hzn⟩; have hres := reset_any _ _ _ _ _ nn wn hxn (by omega); replace hres := Lib.hid hres) | (go_at_call 105; with_reducible refine hres.out.mono ?_; rintro e wr2 ⟨rfl, br2, cr2, hxr2, hbr2, hur2⟩; have hup2 : Upd0 w4 wr2 := hun.then hur2 (fun i hi h => by have := hzn.out; omega)))
    all_goals (go_wp2_with fail; go_meet; exact fresh_reset (w := w4) hzn.out hun hxr2 hbr2 hur2)
  case rest =>
    obtain ⟨pn, bn, cn, rfl, hn5, gp, gb, lp5, lb5, hu5⟩ := hcut
    have hx5 := hx4.keep0 hu5
    have hy5 := hy4.keep0 hu5
    have hu05 := hu04.trans hu5
    clear hx4 hy4 hu5 hu04
    generalize wc = w5 at *
    have hyc := hy5.hd
    rw [← prN_zero A B] at hn5
    go_wp2_with fail
    clear hyc
    go_loopw [34] (fun i wr => ∃ j : Nat, j ≤ ny ∧ i = .int .i64 j ∧ PrAt w5 pn bn cn nn (prN A B j) wr) (fun i _ => ny - (intOf i).toNat)
    case atStart => exact ⟨0, by omega, rfl, hn5, .refl _ _⟩
    case round =>
      clear hn5
      obtain ⟨j, hj, rfl, hn, hu⟩ := hrel
      have ln := hn.le
      have sn := hn.sm
      have hxr := hx5.keep hu (by omega) (by omega)
      have hyr := hy5.keep hu (by omega) (by omega)
      by_cases hlt : j < ny
      · obtain ⟨d, hd1, hd, HD⟩ := hyr.limb hlt
        have hnc := hn.hd
        have hxc := hxr.hd
        have hyc := hyr.hd
        have i1 : (j : Int) < (ny : Int) := by omega
        have i2 : (0 : Int) ≤ (j : Int) := by omega
        have i3 : ((j : Int)).toNat = j := by omega
        have i4 : (j : Int) ≤ (j : Int) + (nx : Int) := by omega
        have i5 : (j : Int) + (nx : Int) ≤ (cn : Int) := by omega
        have i6 : (j : Int) + (nx : Int) < (nn : Int) := by omega
        have i8 : (0 : Int) ≤ (j : Int) + (nx : Int) := by omega
        have hcall := addMul_any bn nn j nx (cn - j) bx nx cx d (dg W64 (prN A B j)) (dg W64 A) wr.drew hn.own.drew (fun i _ => limb_lt _ _) (by omega) (by omega) (by omega) hxr.drew.own (Nat.le_refl _) (by omega) (fun i _ => limb_lt _ _) (by omega) hd
        rw [HD.out, prN_row B j HlA.out, ← HD.out] at hcall
        replace hcall := Lib.hid hcall
        obtain ⟨v, Hv⟩ : ∃ v, Hid (v = prN A B (j + 1) / W64 ^ j / W64 ^ nx) := ⟨_, rfl⟩
        rw [← Hv.out] at hcall
        have HLT : Hid (prN A B (j + 1) < W64 ^ nn) := Nat.lt_of_lt_of_le (prN_lt B (j + 1) HlA.out) (Nat.pow_le_pow_right W64_pos (by omega))
        have hfin : Hid (∀ w1, Wrote wr.drew w1 bn nn (fun i => if j ≤ i ∧ i < j + nx then dg W64 (prN A B (j + 1) / W64 ^ j) (i - j) else dg W64 (prN A B j) i) → PrAt w5 pn bn cn nn (prN A B (j + 1)) (w1.setCell ⟨bn, j + nx, none⟩ (.int .u64 (v : Nat)))) := fun w1 hw1 => by
          have h1 := hw1.set (show j + nx < nn by omega) v rfl
          exact ⟨hn.drew.wrote (h1.congr fun i _ => by rw [← prN_dg B j i HlA.out, Hv.out, Nat.add_comm j nx]) HLT.out, hu.drew.trans h1.upd⟩
        have hne : pn ≠ bn ∧ px ≠ bn ∧ py ≠ bn ∧ by' ≠ bn := by have := hn.ne; omega
        have hS : Hid (∀ w1, Upd (fun k => k = bn) wr.drew w1 → w1.cell? ⟨pn, 0, none⟩ = some (.slice (some ⟨bn, 0, none⟩) nn cn) ∧ w1.cell? ⟨px, 0, none⟩ = some (.slice (some ⟨bx, 0, none⟩) nx cx) ∧ w1.cell? ⟨py, 0, none⟩ = some (.slice (some ⟨by', 0, none⟩) ny cy) ∧ w1.cell? ⟨by', j, none⟩ = some (.int .u64 (d : Nat))) := fun w1 h =>
          ⟨h.cell (p := ⟨pn, 0, none⟩) hne.1 hn.drew.hd, h.cell (p := ⟨px, 0, none⟩) hne.2.1 hxr.drew.hd, h.cell (p := ⟨py, 0, none⟩) hne.2.2.1 hyr.drew.hd, h.cell (p := ⟨by', j, none⟩) hne.2.2.2 hd1⟩
        have hlim : Hid (j + nx < nn) := by show _ < _; omega
        have e1 := w64 ((j : Int) + (nx : Int)) (by omega) (by omega)
        have e2 : ((j : Int) + (nx : Int)).toNat = j + nx := by omega
        have e3 : j + nx - j = nx := by omega
        have e4 : ¬ cn = j := by omega
        clear hn hu hxr hyr Hv HD HLT
        go_upto_block 1 with fail
        go_cut [] (fun wx => PrAt w5 pn bn cn nn (prN A B (j + 1)) wx)
        case first =>
          go_wp2_with fail
          go_region_held3 (fun w1 => w1.cell? ⟨pn, 0, none⟩ = some (.slice (some ⟨bn, 0, none⟩) nn cn) ∧ w1.cell? ⟨px, 0, none⟩ = some (.slice (some ⟨bx, 0, none⟩) nx cx) ∧ w1.cell? ⟨py, 0, none⟩ = some (.slice (some ⟨by', 0, none⟩) ny cy) ∧ w1.cell? ⟨by', j, none⟩ = some (.int .u64 (d : Nat))) (first | exact hS.out _ (.refl _ _) | exact hS.out _ hup1 | exact hS.out _ (hup2.out _)) (first | (go_at_call 106; with_reducible refine hcall.out.mono ?_; rintro e w1 ⟨rfl, hw1⟩; have hup1 := hw1.upd; have hup2 := Lib.hid (fun u => hup1.setCell ⟨bn, j + nx, none⟩ u (fun _ => rfl)); have hc3 := hw1.own.cell (j + nx) hlim.out; have hf3 := hw1.own.free (j + nx) hlim.out; replace hw1 := Lib.hid hw1))
          all_goals (go_wp2_with fail; go_meet)
          all_goals exact hfin.out _ hw1.out
        case rest =>
          clear e1 e2 e3 e4 hfin hcall hd1 hnc hxc hyc hS
          go_wp2_with fail
          go_roundw
          case rel => exact ⟨j + 1, by omega, by go_num, hcut⟩
          case measure => simp [intOf]; omega
      · obtain rfl : j = ny := by omega
        rw [prN_all HlB.out] at hn
        clear hxr hyr
        have k7 := Lib.hid (trim_any pn bn cn nn (A * B) wr hn)
        go_wp2_with fail
        with_reducible refine k7.out.mono ?_
        rintro e w7 ⟨rfl, hx7, hu7⟩
        have hu07 : Upd0 w w7 := (hu05.then hu (fun i hi h => by omega)).then hu7 (fun i hi h => by omega)
        have k8 := Lib.hid (newModulus_no _ bn cn _ (A * B) w7 hx7 HMM.out)
        go_wp2_with fail
        with_reducible refine k8.out.mono ?_
        rintro e w8 ⟨t, x, rfl, hu8⟩
        go_wp2_with fail
        go_ret2
        exact ⟨t, x, rfl, hu07.trans hu8⟩
set_option maxRecDepth 100000 in
set_option maxHeartbeats 1000000 in
theorem iModulusProduct_bs {aa ab : Option Addr} {na ca nb' cb A B : Nat} {w : World} (hna : na ≤ 4000) (hnb : nb' ≤ 4000) (hA0 : 0 < A) (hB0 : 0 < B) (ha : Bs w aa na ca A) (hb : Bs w ab nb' cb B) :
    Calls Try.prog 32 #[.slice aa na ca, .slice ab nb' cb] w (RetOpt w (optN (1 < A * B) (A * B) (A * B))) := by
  have hl := nb_mul_le A B
  have hl1 := ha.nb
  have hl2 := hb.nb
  by_cases h1 : 1 < A * B
  · rw [optN_yes h1]
    have H1 := Lib.hid h1
    obtain ⟨M, HM⟩ : ∃ M, Hid (M = A * B) := ⟨_, rfl⟩
    have hnbm : nb M ≤ 8000 := by rw [HM.out]; omega
    have k3 := fun (w : World) (a1 a2 : Option Addr) (c1 c2 : Nat) (h : Bs w a1 na c1 A) (h' : Bs w a2 nb' c2 B) => newPrd_yes hna hnb h h' hA0 hB0 H1.out
    rw [← HM.out] at k3 ⊢
    replace k3 := Lib.hid k3
    clear h1 hl
    go_enter Try.func32, Try.ntmps32
    go_wp2_with fail
    with_reducible refine (clone_bs (by omega) ha).mono ?_
    rintro e w1 ⟨a1, c1, rfl, ha1, hu1⟩
    go_wp2_with fail
    with_reducible refine (clone_bs (by omega) (hb.keep hu1)).mono ?_
    rintro e w2 ⟨a2, c2, rfl, hb2, hu2⟩
    go_wp2_with fail
    with_reducible refine (k3.out _ _ _ _ _ (ha1.keep hu2) hb2).mono ?_
    rintro e w3 ⟨mp, rfl, hmod, hu3⟩
    go_wp2_with fail
    with_reducible refine (modNat_any hmod).mono ?_
    rintro e w4 ⟨p, b, c, rfl, hx4, hp, hbb, hu4⟩
    go_wp2_with fail
    with_reducible refine (bytes_le _ _ _ (nl M) M _ mp M w4 hx4 (hmod.keep0 hu4) (Nat.le_refl _)).mono ?_
    rintro e w5 ⟨a5, c5, rfl, hb5, hu5⟩
    go_wp2_with fail
    with_reducible refine (clone_bs (by omega) hb5).mono ?_
    rintro e w6 ⟨a6, c6, rfl, hb6, hu6⟩
    go_wp2_with fail
    go_ret2
    exact ⟨a6, c6, rfl, hb6, ((((hu1.trans hu2).trans hu3).trans hu4).trans hu5).trans hu6⟩
  · rw [optN_no h1]
    have H1 := Lib.hid h1
    have k3 := Lib.hid (fun (w : World) (a1 a2 : Option Addr) (c1 c2 : Nat) (h : Bs w a1 na c1 A) (h' : Bs w a2 nb' c2 B) => newPrd_no hna hnb h h' hA0 hB0 H1.out)
    clear h1 hl
    go_enter Try.func32, Try.ntmps32
    go_wp2_with fail
    with_reducible refine (clone_bs (by omega) ha).mono ?_
    rintro e w1 ⟨a1, c1, rfl, ha1, hu1⟩
    go_wp2_with fail
    with_reducible refine (clone_bs (by omega) (hb.keep hu1)).mono ?_
    rintro e w2 ⟨a2, c2, rfl, hb2, hu2⟩
    go_wp2_with fail
    with_reducible refine (k3.out _ _ _ _ _ (ha1.keep hu2) hb2).mono ?_
    rintro e w3 ⟨t, x, rfl, hu3⟩
    go_wp2_with fail
    go_ret2
    exact ⟨rfl, (hu1.trans hu2).trans hu3⟩
end Go.Proofs.Ytpojonfopoobpaa
