/-
  Contract: Mul.
-/
import Derived.Test.YtpojonfopoobpaaModC
import Derived.Test.YtpojonfopoobpaaMulI
import Derived.Deep.DeepCutAuto
import Derived.Deep.CutBlock
namespace Go.Proofs.Ytpojonfopoobpaa
open Go.RowKit

/-- A number over a row of the call's own. -/
theorem NatAt.boxT {w : World} {tb cap N P : Nat} (ho : Own .u64 w tb cap (dg W64 P)) (hN : N ≤ cap) (hc : cap ≤ 65536) (hP : P < W64 ^ N) (htb : tb < w.heap.size) (t : Nat) :
    NatAt (w.alloc (.cells #[.slice (some ⟨tb, 0, none⟩) N cap] t)) w.heap.size tb cap N P := by
  have h2 := ho.keep0 ((Upd.refl (fun _ => False) w).alloc (.cells #[.slice (some ⟨tb, 0, none⟩) N cap] t))
  exact ⟨World.cell?_alloc_new _ _ _ _, by simp, hN, hc, hP, h2.le hN, fun i hi => by rw [h2.cell i hi]; rfl, h2.free, by omega, by simp; omega⟩
/-- One row of the product is laid into T. -/
def RowAt (w : World) (t N : Nat) (P : Nat) (wx : World) : Prop := Own .u64 wx t N (dg W64 P) ∧ Upd0 w wx ∧ t < wx.heap.size
theorem mul_row {w wr w1 : World} {t N n j X Y v : Nat} (hX : X < W64 ^ n) (ht : w.heap.size ≤ t) (hu : Upd0 w wr) (hl : t < wr.heap.size) (hN : n + j < N) (hv : v = prN X Y (j + 1) / W64 ^ j / W64 ^ n)
    (hw1 : Wrote wr w1 t N (fun i => if j ≤ i ∧ i < j + n then dg W64 (prN X Y (j + 1) / W64 ^ j) (i - j) else dg W64 (prN X Y j) i)) : RowAt w t N (prN X Y (j + 1)) (w1.setCell ⟨t, n + j, none⟩ (.int .u64 (v : Nat))) := by
  refine ⟨((hw1.set hN v rfl).congr fun i _ => ?_).own, (Upd.fresh hu hw1.upd ht).setCell _ _ (fun h => by exact absurd h (Nat.not_lt.2 ht)), ?_⟩
  · rw [← prN_dg Y j i hX, hv]
  · rw [World.size_setCell]; exact Nat.lt_of_lt_of_le hl hw1.upd.size
theorem RowAt.start {w : World} {cap t : Nat} : RowAt w w.heap.size cap 0 (w.alloc (.cells (rowU cap) t)) :=
  ⟨(Own.row w cap t).congr fun i _ => by rw [dg_of_lt (Nat.pow_pos W64_pos)], (Upd.refl _ _).alloc _, by simp⟩

set_option maxRecDepth 100000 in
set_option maxHeartbeats 4000000 in
theorem mulEv16 {p b c X q b' c' Y s mp M : Nat} {w : World} (hx : NatAt w p b c 16 X) (hy : NatAt w q b' c' 16 Y) (hm : ModAt w s mp 16 M) (he : M % 2 = 0) (hp : s ≤ p) (hb : s ≤ b) :
    Calls Try.prog 74 #[.pointer (some ⟨p, 0, none⟩), .pointer (some ⟨q, 0, none⟩), .pointer (some ⟨mp, 0, none⟩)] w fun e w' => e = .returned (.pointer (some ⟨p, 0, none⟩)) ∧ Grown w p b 16 (X * Y % M) w' := by
  obtain ⟨qm, bm, cm, hmn, hqs, hbs⟩ := hm.ex
  have hodd := hm.odd
  rw [show decide (M % 2 = 1) = false from decide_eq_false (by omega)] at hodd
  have hms := hm.hs
  have c1 := hmn.hm
  have c2 := hmn.nat.hd
  have c3 := hx.hd
  have c4 := hy.hd
  have l1 := hmn.nat.le
  have l2 := hx.le
  have l3 := hy.le
  have m1 := hmn.nat.sm
  have m2 := hx.sm
  have m3 := hy.sm
  have hX := hx.lt
  have hY := hy.lt
  have hlp := hx.hp
  have hlb := hx.hb
  have hlq := hy.hp
  have hlb' := hy.hb
  have hmk : ∀ w, (Instr.makeSlice 99 (.int .i64 32) (.int .i64 32)).run Try.prog w = .ok (.slice (some ⟨w.heap.size, 0, none⟩) 32 32) (w.alloc (.cells (rowU 32) 63)) := make_row 32 32 (by omega) (by omega)
  have hT0 : RowAt w w.heap.size 32 (prN X Y 0) (w.alloc (.cells (rowU 32) 63)) := by rw [prN_zero]; exact RowAt.start
  have HPP : X * Y < W64 ^ 32 := by rw [show 32 = 16 + 16 from rfl, Nat.pow_add]; exact Nat.mul_lt_mul'' hX hY
  replace HPP := Lib.hid HPP
  go_enter Try.func74, Try.ntmps74
  go_wp2_with fail
  generalize w.alloc (.cells (rowU 32) 63) = w0 at *
  clear hmk hodd c1 c2
  go_loopw [14] (fun i wr => ∃ j : Nat, j ≤ 16 ∧ i = .int .i64 j ∧ RowAt w w.heap.size 32 (prN X Y j) wr) (fun i _ => 16 - (intOf i).toNat)
  case atStart => exact ⟨0, by omega, rfl, hT0⟩
  case round =>
    clear hT0
    obtain ⟨j, hj, rfl, hT⟩ := hrel
    by_cases hlt : j < 16
    · have hu := hT.2.1
      have hO := hT.1
      have htl := hT.2.2
      obtain ⟨d, hd1, hd, HD⟩ := (hy.keep0 hu).limb hlt
      have i1 : (j : Int) < 16 := by omega
      have i2 : (0 : Int) ≤ (j : Int) := by omega
      have i3 : ((j : Int)).toNat = j := by omega
      have i4 : (j : Int) ≤ (j : Int) + 16 := by omega
      have i5 : (j : Int) + 16 ≤ 32 := by omega
      have i6 : (16 : Int) ≤ (c : Int) := by omega
      have i7 : 16 + (j : Int) < 32 := by omega
      have i8 : 0 ≤ 16 + (j : Int) := by omega
      have hcall := addMul_any w.heap.size 32 j 16 (32 - j) b 16 c d (dg W64 (prN X Y j)) (dg W64 X) wr.drew hO.drew (fun i _ => limb_lt _ _) (by omega) (by omega) (by omega) (hx.keep0 hu).drew.own (Nat.le_refl _) (by omega) (fun i _ => limb_lt _ _) (by omega) hd
      rw [HD.out, prN_row Y j hX, ← HD.out] at hcall
      replace hcall := Lib.hid hcall
      obtain ⟨v, Hv⟩ : ∃ v, v = prN X Y (j + 1) / W64 ^ j / W64 ^ 16 := ⟨_, rfl⟩
      replace Hv := Lib.hid Hv
      rw [← Hv.out] at hcall
      have hfin := Lib.hid (fun w1 hw1 => mul_row (v := v) hX (Nat.le_refl _) hu.drew htl (show 16 + j < 32 by omega) Hv.out (w1 := w1) (wr := wr.drew) hw1)
      have e1 := w64 ((j : Int) + 16) (by omega) (by omega)
      have e2 : ((j : Int) + 16).toNat = j + 16 := by omega
      have e4 := w64 (16 + (j : Int)) (by omega) (by omega)
      have e5 : (16 + (j : Int)).toNat = 16 + j := by omega
      clear hT hO hu htl Hv HD HPP hX hY
      go_upto_block 4 with fail
      go_cut [] (fun wx => RowAt w w.heap.size 32 (prN X Y (j + 1)) wx)
      case first =>
        go_wp2_with fail
        go_region_with ((go_at_call 106; with_reducible refine hcall.out.mono ?_; rintro e w1 ⟨rfl, hw1⟩; have hc3 := hw1.own.cell (16 + j) (by omega); have hf3 := hw1.own.free (16 + j) (by omega); replace hw1 := Lib.hid hw1))
        all_goals (go_wp2_with fail; go_meet)
        all_goals exact hfin.out _ hw1.out
      case rest =>
        clear e1 e2 e4 e5 hfin hcall hd1
        go_wp2_with fail
        go_roundw
        case rel => exact ⟨j + 1, by omega, by go_num, hcut⟩
        case measure => simp [intOf]; omega
    · obtain rfl : j = 16 := by omega
      replace HPP := HPP.out
      rw [prN_all hY] at hT
      have hbx := NatAt.boxT hT.1 (show 32 ≤ 32 by omega) (by omega) HPP hT.2.2 101
      have hua : Upd0 w (wr.alloc (.cells #[.slice (some ⟨w.heap.size, 0, none⟩) 32 32] 101)) := hT.2.1.alloc _
      have hsz := hT.2.1.size
      have k1 := Lib.hid (natMod_any (hx.keep0 hua) hbx (hm.keep0 hua) hp hb (by omega) (by omega) (by omega) (by omega))
      go_wp2_with fail
      with_reducible refine k1.out.mono ?_
      rintro e w7 ⟨rfl, b7, c7, hx7, hb7, hu7⟩
      have hsa := hua.size
      go_wp2_with fail
      go_ret
      exact ⟨rfl, b7, c7, hx7, by rcases hb7 with h | h; exact .inl h; exact .inr (Nat.le_trans hsa h), (Upd.mono (T := fun k => k = p ∨ k = b) hua (fun _ _ h => h.elim)).trans hu7⟩
set_option maxRecDepth 100000 in
set_option maxHeartbeats 4000000 in
theorem mulEv24 {p b c X q b' c' Y s mp M : Nat} {w : World} (hx : NatAt w p b c 24 X) (hy : NatAt w q b' c' 24 Y) (hm : ModAt w s mp 24 M) (he : M % 2 = 0) (hp : s ≤ p) (hb : s ≤ b) :
    Calls Try.prog 74 #[.pointer (some ⟨p, 0, none⟩), .pointer (some ⟨q, 0, none⟩), .pointer (some ⟨mp, 0, none⟩)] w fun e w' => e = .returned (.pointer (some ⟨p, 0, none⟩)) ∧ Grown w p b 24 (X * Y % M) w' := by
  obtain ⟨qm, bm, cm, hmn, hqs, hbs⟩ := hm.ex
  have hodd := hm.odd
  rw [show decide (M % 2 = 1) = false from decide_eq_false (by omega)] at hodd
  have hms := hm.hs
  have c1 := hmn.hm
  have c2 := hmn.nat.hd
  have c3 := hx.hd
  have c4 := hy.hd
  have l1 := hmn.nat.le
  have l2 := hx.le
  have l3 := hy.le
  have m1 := hmn.nat.sm
  have m2 := hx.sm
  have m3 := hy.sm
  have hX := hx.lt
  have hY := hy.lt
  have hlp := hx.hp
  have hlb := hx.hb
  have hlq := hy.hp
  have hlb' := hy.hb
  have hmk : ∀ w, (Instr.makeSlice 99 (.int .i64 48) (.int .i64 48)).run Try.prog w = .ok (.slice (some ⟨w.heap.size, 0, none⟩) 48 48) (w.alloc (.cells (rowU 48) 63)) := make_row 48 48 (by omega) (by omega)
  have hT0 : RowAt w w.heap.size 48 (prN X Y 0) (w.alloc (.cells (rowU 48) 63)) := by rw [prN_zero]; exact RowAt.start
  have HPP : X * Y < W64 ^ 48 := by rw [show 48 = 24 + 24 from rfl, Nat.pow_add]; exact Nat.mul_lt_mul'' hX hY
  replace HPP := Lib.hid HPP
  go_enter Try.func74, Try.ntmps74
  go_wp2_with fail
  generalize w.alloc (.cells (rowU 48) 63) = w0 at *
  clear hmk hodd c1 c2
  go_loopw [16] (fun i wr => ∃ j : Nat, j ≤ 24 ∧ i = .int .i64 j ∧ RowAt w w.heap.size 48 (prN X Y j) wr) (fun i _ => 24 - (intOf i).toNat)
  case atStart => exact ⟨0, by omega, rfl, hT0⟩
  case round =>
    clear hT0
    obtain ⟨j, hj, rfl, hT⟩ := hrel
    by_cases hlt : j < 24
    · have hu := hT.2.1
      have hO := hT.1
      have htl := hT.2.2
      obtain ⟨d, hd1, hd, HD⟩ := (hy.keep0 hu).limb hlt
      have i1 : (j : Int) < 24 := by omega
      have i2 : (0 : Int) ≤ (j : Int) := by omega
      have i3 : ((j : Int)).toNat = j := by omega
      have i4 : (j : Int) ≤ (j : Int) + 24 := by omega
      have i5 : (j : Int) + 24 ≤ 48 := by omega
      have i6 : (24 : Int) ≤ (c : Int) := by omega
      have i7 : 24 + (j : Int) < 48 := by omega
      have i8 : 0 ≤ 24 + (j : Int) := by omega
      have hcall := addMul_any w.heap.size 48 j 24 (48 - j) b 24 c d (dg W64 (prN X Y j)) (dg W64 X) wr.drew hO.drew (fun i _ => limb_lt _ _) (by omega) (by omega) (by omega) (hx.keep0 hu).drew.own (Nat.le_refl _) (by omega) (fun i _ => limb_lt _ _) (by omega) hd
      rw [HD.out, prN_row Y j hX, ← HD.out] at hcall
      replace hcall := Lib.hid hcall
      obtain ⟨v, Hv⟩ : ∃ v, v = prN X Y (j + 1) / W64 ^ j / W64 ^ 24 := ⟨_, rfl⟩
      replace Hv := Lib.hid Hv
      rw [← Hv.out] at hcall
      have hfin := Lib.hid (fun w1 hw1 => mul_row (v := v) hX (Nat.le_refl _) hu.drew htl (show 24 + j < 48 by omega) Hv.out (w1 := w1) (wr := wr.drew) hw1)
      have e1 := w64 ((j : Int) + 24) (by omega) (by omega)
      have e2 : ((j : Int) + 24).toNat = j + 24 := by omega
      have e4 := w64 (24 + (j : Int)) (by omega) (by omega)
      have e5 : (24 + (j : Int)).toNat = 24 + j := by omega
      clear hT hO hu htl Hv HD HPP hX hY
      go_upto_block 6 with fail
      go_cut [] (fun wx => RowAt w w.heap.size 48 (prN X Y (j + 1)) wx)
      case first =>
        go_wp2_with fail
        go_region_with ((go_at_call 106; with_reducible refine hcall.out.mono ?_; rintro e w1 ⟨rfl, hw1⟩; have hc3 := hw1.own.cell (24 + j) (by omega); have hf3 := hw1.own.free (24 + j) (by omega); replace hw1 := Lib.hid hw1))
        all_goals (go_wp2_with fail; go_meet)
        all_goals exact hfin.out _ hw1.out
      case rest =>
        clear e1 e2 e4 e5 hfin hcall hd1
        go_wp2_with fail
        go_roundw
        case rel => exact ⟨j + 1, by omega, by go_num, hcut⟩
        case measure => simp [intOf]; omega
    · obtain rfl : j = 24 := by omega
      replace HPP := HPP.out
      rw [prN_all hY] at hT
      have hbx := NatAt.boxT hT.1 (show 48 ≤ 48 by omega) (by omega) HPP hT.2.2 101
      have hua : Upd0 w (wr.alloc (.cells #[.slice (some ⟨w.heap.size, 0, none⟩) 48 48] 101)) := hT.2.1.alloc _
      have hsz := hT.2.1.size
      have k1 := Lib.hid (natMod_any (hx.keep0 hua) hbx (hm.keep0 hua) hp hb (by omega) (by omega) (by omega) (by omega))
      go_wp2_with fail
      with_reducible refine k1.out.mono ?_
      rintro e w7 ⟨rfl, b7, c7, hx7, hb7, hu7⟩
      have hsa := hua.size
      go_wp2_with fail
      go_ret
      exact ⟨rfl, b7, c7, hx7, by rcases hb7 with h | h; exact .inl h; exact .inr (Nat.le_trans hsa h), (Upd.mono (T := fun k => k = p ∨ k = b) hua (fun _ _ h => h.elim)).trans hu7⟩
set_option maxRecDepth 100000 in
set_option maxHeartbeats 4000000 in
theorem mulEv32 {p b c X q b' c' Y s mp M : Nat} {w : World} (hx : NatAt w p b c 32 X) (hy : NatAt w q b' c' 32 Y) (hm : ModAt w s mp 32 M) (he : M % 2 = 0) (hp : s ≤ p) (hb : s ≤ b) :
    Calls Try.prog 74 #[.pointer (some ⟨p, 0, none⟩), .pointer (some ⟨q, 0, none⟩), .pointer (some ⟨mp, 0, none⟩)] w fun e w' => e = .returned (.pointer (some ⟨p, 0, none⟩)) ∧ Grown w p b 32 (X * Y % M) w' := by
  obtain ⟨qm, bm, cm, hmn, hqs, hbs⟩ := hm.ex
  have hodd := hm.odd
  rw [show decide (M % 2 = 1) = false from decide_eq_false (by omega)] at hodd
  have hms := hm.hs
  have c1 := hmn.hm
  have c2 := hmn.nat.hd
  have c3 := hx.hd
  have c4 := hy.hd
  have l1 := hmn.nat.le
  have l2 := hx.le
  have l3 := hy.le
  have m1 := hmn.nat.sm
  have m2 := hx.sm
  have m3 := hy.sm
  have hX := hx.lt
  have hY := hy.lt
  have hlp := hx.hp
  have hlb := hx.hb
  have hlq := hy.hp
  have hlb' := hy.hb
  have hmk : ∀ w, (Instr.makeSlice 99 (.int .i64 64) (.int .i64 64)).run Try.prog w = .ok (.slice (some ⟨w.heap.size, 0, none⟩) 64 64) (w.alloc (.cells (rowU 64) 63)) := make_row 64 64 (by omega) (by omega)
  have hT0 : RowAt w w.heap.size 64 (prN X Y 0) (w.alloc (.cells (rowU 64) 63)) := by rw [prN_zero]; exact RowAt.start
  have HPP : X * Y < W64 ^ 64 := by rw [show 64 = 32 + 32 from rfl, Nat.pow_add]; exact Nat.mul_lt_mul'' hX hY
  replace HPP := Lib.hid HPP
  go_enter Try.func74, Try.ntmps74
  go_wp2_with fail
  generalize w.alloc (.cells (rowU 64) 63) = w0 at *
  clear hmk hodd c1 c2
  go_loopw [18] (fun i wr => ∃ j : Nat, j ≤ 32 ∧ i = .int .i64 j ∧ RowAt w w.heap.size 64 (prN X Y j) wr) (fun i _ => 32 - (intOf i).toNat)
  case atStart => exact ⟨0, by omega, rfl, hT0⟩
  case round =>
    clear hT0
    obtain ⟨j, hj, rfl, hT⟩ := hrel
    by_cases hlt : j < 32
    · have hu := hT.2.1
      have hO := hT.1
      have htl := hT.2.2
      obtain ⟨d, hd1, hd, HD⟩ := (hy.keep0 hu).limb hlt
      have i1 : (j : Int) < 32 := by omega
      have i2 : (0 : Int) ≤ (j : Int) := by omega
      have i3 : ((j : Int)).toNat = j := by omega
      have i4 : (j : Int) ≤ (j : Int) + 32 := by omega
      have i5 : (j : Int) + 32 ≤ 64 := by omega
      have i6 : (32 : Int) ≤ (c : Int) := by omega
      have i7 : 32 + (j : Int) < 64 := by omega
      have i8 : 0 ≤ 32 + (j : Int) := by omega
      have hcall := addMul_any w.heap.size 64 j 32 (64 - j) b 32 c d (dg W64 (prN X Y j)) (dg W64 X) wr.drew hO.drew (fun i _ => limb_lt _ _) (by omega) (by omega) (by omega) (hx.keep0 hu).drew.own (Nat.le_refl _) (by omega) (fun i _ => limb_lt _ _) (by omega) hd
      rw [HD.out, prN_row Y j hX, ← HD.out] at hcall
      replace hcall := Lib.hid hcall
      obtain ⟨v, Hv⟩ : ∃ v, v = prN X Y (j + 1) / W64 ^ j / W64 ^ 32 := ⟨_, rfl⟩
      replace Hv := Lib.hid Hv
      rw [← Hv.out] at hcall
      have hfin := Lib.hid (fun w1 hw1 => mul_row (v := v) hX (Nat.le_refl _) hu.drew htl (show 32 + j < 64 by omega) Hv.out (w1 := w1) (wr := wr.drew) hw1)
      have e1 := w64 ((j : Int) + 32) (by omega) (by omega)
      have e2 : ((j : Int) + 32).toNat = j + 32 := by omega
      have e4 := w64 (32 + (j : Int)) (by omega) (by omega)
      have e5 : (32 + (j : Int)).toNat = 32 + j := by omega
      clear hT hO hu htl Hv HD HPP hX hY
      go_upto_block 8 with fail
      go_cut [] (fun wx => RowAt w w.heap.size 64 (prN X Y (j + 1)) wx)
      case first =>
        go_wp2_with fail
        go_region_with ((go_at_call 106; with_reducible refine hcall.out.mono ?_; rintro e w1 ⟨rfl, hw1⟩; have hc3 := hw1.own.cell (32 + j) (by omega); have hf3 := hw1.own.free (32 + j) (by omega); replace hw1 := Lib.hid hw1))
        all_goals (go_wp2_with fail; go_meet)
        all_goals exact hfin.out _ hw1.out
      case rest =>
        clear e1 e2 e4 e5 hfin hcall hd1
        go_wp2_with fail
        go_roundw
        case rel => exact ⟨j + 1, by omega, by go_num, hcut⟩
        case measure => simp [intOf]; omega
    · obtain rfl : j = 32 := by omega
      replace HPP := HPP.out
      rw [prN_all hY] at hT
      have hbx := NatAt.boxT hT.1 (show 64 ≤ 64 by omega) (by omega) HPP hT.2.2 101
      have hua : Upd0 w (wr.alloc (.cells #[.slice (some ⟨w.heap.size, 0, none⟩) 64 64] 101)) := hT.2.1.alloc _
      have hsz := hT.2.1.size
      have k1 := Lib.hid (natMod_any (hx.keep0 hua) hbx (hm.keep0 hua) hp hb (by omega) (by omega) (by omega) (by omega))
      go_wp2_with fail
      with_reducible refine k1.out.mono ?_
      rintro e w7 ⟨rfl, b7, c7, hx7, hb7, hu7⟩
      have hsa := hua.size
      go_wp2_with fail
      go_ret
      exact ⟨rfl, b7, c7, hx7, by rcases hb7 with h | h; exact .inl h; exact .inr (Nat.le_trans hsa h), (Upd.mono (T := fun k => k = p ∨ k = b) hua (fun _ _ h => h.elim)).trans hu7⟩
/-- The slice T of the general case, before it is cut. -/
def MPre (w : World) (n : Nat) (t : Value) (wx : World) : Prop :=
  ∃ tb cap, t = .slice (some ⟨tb, 0, none⟩) 0 cap ∧ 2 * n ≤ cap ∧ cap ≤ 65536 ∧ w.heap.size ≤ tb ∧ RowAt w tb cap 0 wx
set_option maxRecDepth 100000 in
set_option maxHeartbeats 4000000 in
theorem mulEvDef {p b c n X q b' c' Y s mp M : Nat} {w : World} (hn : n ≤ 16384) (hn0 : 1 ≤ n) (n16 : n ≠ 16) (n24 : n ≠ 24) (n32 : n ≠ 32) (hx : NatAt w p b c n X) (hy : NatAt w q b' c' n Y) (hm : ModAt w s mp n M) (he : M % 2 = 0) (hp : s ≤ p) (hb : s ≤ b) :
    Calls Try.prog 74 #[.pointer (some ⟨p, 0, none⟩), .pointer (some ⟨q, 0, none⟩), .pointer (some ⟨mp, 0, none⟩)] w fun e w' => e = .returned (.pointer (some ⟨p, 0, none⟩)) ∧ Grown w p b n (X * Y % M) w' := by
  obtain ⟨qm, bm, cm, hmn, hqs, hbs⟩ := hm.ex
  have hodd := hm.odd
  rw [show decide (M % 2 = 1) = false from decide_eq_false (by omega)] at hodd
  have hms := hm.hs
  have c1 := hmn.hm
  have c2 := hmn.nat.hd
  have c3 := hx.hd
  have c4 := hy.hd
  have l1 := hmn.nat.le
  have l2 := hx.le
  have l3 := hy.le
  have m1 := hmn.nat.sm
  have m2 := hx.sm
  have m3 := hy.sm
  have hX := hx.lt
  have hY := hy.lt
  have hlp := hx.hp
  have hlb := hx.hb
  have hlq := hy.hp
  have hlb' := hy.hb
  have hmk : ∀ w, (Instr.makeSlice 99 (.int .i64 0) (.int .i64 64)).run Try.prog w = .ok (.slice (some ⟨w.heap.size, 0, none⟩) 0 64) (w.alloc (.cells (rowU 64) 63)) := make_row 0 64 (by omega) (by omega)
  have hmk2 : ∀ w, (Instr.makeSlice 99 (.int .i64 0) (.int .i64 ((n : Int) * 2))).run Try.prog w = .ok (.slice (some ⟨w.heap.size, 0, none⟩) 0 (n * 2)) (w.alloc (.cells (rowU (n * 2)) 63)) := fun w => by
    have := make_row 0 (n * 2) (by omega) (by omega) w
    rw [show (((n * 2 : Nat)) : Int) = (n : Int) * 2 by simp] at this
    exact this
  have HPP : X * Y < W64 ^ (2 * n) := by rw [Nat.two_mul, Nat.pow_add]; exact Nat.mul_lt_mul'' hX hY
  replace HPP := Lib.hid HPP
  have q16 : ((n : Int) == 16) = false := by rw [beq_eq_false_iff_ne]; omega
  have q24 : ((n : Int) == 24) = false := by rw [beq_eq_false_iff_ne]; omega
  have q32 : ((n : Int) == 32) = false := by rw [beq_eq_false_iff_ne]; omega
  go_enter Try.func74, Try.ntmps74
  go_upto_if 59 with fail
  clear q16 q24 q32 hodd c1 c2
  go_cut [11] (fun t wx => MPre w n t wx)
  case first =>
    by_cases h64 : 64 < n * 2
    · have h64' : (64 : Int) < (n : Int) * 2 := by omega
      go_wp2_with fail
      go_meet
      have hu1 : Upd0 w (w.alloc (.cells (rowU 64) 63)) := (Upd.refl _ _).alloc _
      have h := RowAt.start (w := w.alloc (.cells (rowU 64) 63)) (cap := n * 2) (t := 63)
      rw [show (w.alloc (.cells (rowU 64) 63)).heap.size = w.heap.size + 1 by simp] at h
      exact ⟨_, n * 2, rfl, by omega, by omega, by omega, h.1, hu1.trans h.2.1, h.2.2⟩
    · have h64' : ¬ (64 : Int) < (n : Int) * 2 := by omega
      go_wp2_with fail
      go_meet
      exact ⟨_, 64, rfl, by omega, by omega, by omega, RowAt.start⟩
  case rest =>
    clear hmk hmk2
    obtain ⟨tb, cap, rfl, hcap1, hcap2, htb, hT0⟩ := hcut
    rw [← prN_zero X Y] at hT0
    have i0 : (n : Int) * 2 ≤ (cap : Int) := by omega
    go_wp2_with fail
    go_loopw [12] (fun i wr => ∃ j : Nat, j ≤ n ∧ i = .int .i64 j ∧ RowAt w tb cap (prN X Y j) wr) (fun i _ => n - (intOf i).toNat)
    case atStart => exact ⟨0, by omega, rfl, hT0⟩
    case round =>
      clear hT0
      obtain ⟨j, hj, rfl, hT⟩ := hrel
      by_cases hlt : j < n
      · have hu := hT.2.1
        have hO := hT.1
        have htl := hT.2.2
        obtain ⟨d, hd1, hd, HD⟩ := (hy.keep0 hu).limb hlt
        have i1 : (j : Int) < (n : Int) := by omega
        have i2 : (0 : Int) ≤ (j : Int) := by omega
        have i3 : ((j : Int)).toNat = j := by omega
        have i4 : (j : Int) ≤ (n : Int) + (j : Int) := by omega
        have i5 : (n : Int) + (j : Int) ≤ (cap : Int) := by omega
        have i6 : (n : Int) + (j : Int) < (n : Int) * 2 := by omega
        have i8 : (0 : Int) ≤ (n : Int) + (j : Int) := by omega
        have hcall := addMul_any tb cap j n (cap - j) b n c d (dg W64 (prN X Y j)) (dg W64 X) wr.drew hO.drew (fun i _ => limb_lt _ _) (by omega) (by omega) (by omega) (hx.keep0 hu).drew.own (Nat.le_refl _) (by omega) (fun i _ => limb_lt _ _) (by omega) hd
        rw [HD.out, prN_row Y j hX, ← HD.out] at hcall
        replace hcall := Lib.hid hcall
        obtain ⟨v, Hv⟩ : ∃ v, Hid (v = prN X Y (j + 1) / W64 ^ j / W64 ^ n) := ⟨_, rfl⟩
        rw [← Hv.out] at hcall
        have hfin := Lib.hid (fun w1 hw1 => mul_row (v := v) hX htb hu.drew htl (show n + j < cap by omega) Hv.out (w1 := w1) (wr := wr.drew) hw1)
        have e1 := w64 ((n : Int) + (j : Int)) (by omega) (by omega)
        have e2 : ((n : Int) + (j : Int)).toNat = n + j := by omega
        have e3 : n + j - j = n := by omega
        clear hT hO hu htl Hv HD HPP hX hY
        go_upto_block 2 with fail
        go_cut [] (fun wx => RowAt w tb cap (prN X Y (j + 1)) wx)
        case first =>
          go_wp2_with fail
          go_region_with ((go_at_call 106; with_reducible refine hcall.out.mono ?_; rintro e w1 ⟨rfl, hw1⟩; have hc3 := hw1.own.cell (n + j) (by omega); have hf3 := hw1.own.free (n + j) (by omega); replace hw1 := Lib.hid hw1))
          all_goals (go_wp2_with fail; go_meet)
          all_goals exact hfin.out _ hw1.out
        case rest =>
          clear e1 e2 e3 hfin hcall hd1
          go_wp2_with fail
          go_roundw
          case rel => exact ⟨j + 1, by omega, by go_num, hcut⟩
          case measure => simp [intOf]; omega
      · obtain rfl : j = n := by omega
        rw [prN_all hY] at hT
        have e9 : j * 2 = 2 * j := Nat.mul_comm _ _
        have hbx := NatAt.boxT hT.1 hcap1 hcap2 HPP.out hT.2.2 101
        rw [← e9] at hbx
        have hua : Upd0 w (wr.alloc (.cells #[.slice (some ⟨tb, 0, none⟩) (j * 2) cap] 101)) := hT.2.1.alloc _
        have hsz := hT.2.1.size
        have k1 := Lib.hid (natMod_any (hx.keep0 hua) hbx (hm.keep0 hua) hp hb (by omega) (by omega) (by omega) (by omega))
        clear e9
        go_wp2_with fail
        with_reducible refine k1.out.mono ?_
        rintro e w7 ⟨rfl, b7, c7, hx7, hb7, hu7⟩
        have hsa := hua.size
        go_wp2_with fail
        go_ret
        exact ⟨rfl, b7, c7, hx7, by rcases hb7 with h | h; exact .inl h; exact .inr (Nat.le_trans hsa h), (Upd.mono (T := fun k => k = p ∨ k = b) hua (fun _ _ h => h.elim)).trans hu7⟩
set_option maxRecDepth 100000 in
set_option maxHeartbeats 1000000 in
theorem mulOdd {p b c n X q b' c' Y s mp M : Nat} {w : World} (hx : NatAt w p b c n X) (hy : NatAt w q b' c' n Y) (hm : ModAt w s mp n M) (ho : M % 2 = 1) (hXM : X < M) (hp : s ≤ p) (hb : s ≤ b) :
    Calls Try.prog 74 #[.pointer (some ⟨p, 0, none⟩), .pointer (some ⟨q, 0, none⟩), .pointer (some ⟨mp, 0, none⟩)] w fun e w' => e = .returned (.pointer (some ⟨p, 0, none⟩)) ∧ Grown w p b n (X * Y % M) w' := by
  have hodd := hm.odd
  rw [show decide (M % 2 = 1) = true from decide_eq_true ho] at hodd
  have HO := Lib.hid ho
  have hms := hm.hs
  have hlp := hx.hp
  have hlb := hx.hb
  have hlq := hy.hp
  have hlb' := hy.hb
  clear ho
  go_enter Try.func74, Try.ntmps74
  go_wp2_with fail
  obtain ⟨p1, Hp1⟩ : ∃ p1, Hid (p1 = w.heap.size + 1) := ⟨_, rfl⟩
  obtain ⟨b1, Hb1⟩ : ∃ b1, Hid (b1 = w.heap.size) := ⟨_, rfl⟩
  have hp1a := Nat.le_of_eq Hp1.out
  have hp1b := Nat.le_of_eq Hp1.out.symm
  have hb1a := Nat.le_of_eq Hb1.out
  have hb1b := Nat.le_of_eq Hb1.out.symm
  with_reducible refine (newNat_at w p1 b1 Hp1.out Hb1.out).mono ?_
  rintro e w1 ⟨rfl, hx1, hu1, hz1⟩
  replace hz1 := Nat.le_of_eq hz1.out.symm
  have k2 := Lib.hid (set_any p1 b1 32 0 0 p b c n X w1 hx1 (hx.keep0 hu1) (by omega) (by omega) (by omega) (by omega))
  go_wp2_with fail
  with_reducible refine k2.out.mono ?_
  rintro e w2 ⟨rfl, b2, c2, hx2, hb2, hu2⟩
  replace hb2 : b2 = b1 ∨ w1.heap.size ≤ b2 := hb2
  have hu02 : Upd0 w w2 := hu1.then hu2 (fun i hi h => by omega)
  have hz2 := hu2.size
  have k3 := Lib.hid (montRep_any hx2 (hm.keep0 hu02) HO.out hXM (by omega) (by omega))
  go_wp2_with fail
  with_reducible refine k3.out.mono ?_
  rintro e w3 ⟨rfl, b3, c3, hx3, hb3, hu3⟩
  have hu03 : Upd0 w w3 := hu02.then hu3 (fun i hi h => by omega)
  have k4 := Lib.hid (montMP (hx.keep0 hu03) hx3 (hy.keep0 hu03) (hm.keep0 hu03) HO.out hp hb)
  go_wp2_with fail
  with_reducible refine k4.out.mono ?_
  rintro e w4 ⟨rfl, b4, c4, hx4, hb4, hu4⟩
  have hz3 := hu03.size
  go_wp2_with fail
  go_ret
  exact ⟨rfl, b4, c4, hx4, by rcases hb4 with h | h; exact .inl h; exact .inr (Nat.le_trans hz3 h), (Upd.mono (T := fun k => k = p ∨ k = b) hu03 (fun _ _ h => h.elim)).trans hu4⟩
theorem natMul_any {p b c n X q b' c' Y s mp M : Nat} {w : World} (hx : NatAt w p b c n X) (hy : NatAt w q b' c' n Y) (hm : ModAt w s mp n M) (hXM : X < M) (_hYM : Y < M) (hp : s ≤ p) (hb : s ≤ b) :
    Calls Try.prog 74 #[.pointer (some ⟨p, 0, none⟩), .pointer (some ⟨q, 0, none⟩), .pointer (some ⟨mp, 0, none⟩)] w fun e w' => e = .returned (.pointer (some ⟨p, 0, none⟩)) ∧ Grown w p b n (X * Y % M) w' := by
  rcases Nat.mod_two_eq_zero_or_one M with he | ho
  · by_cases h16 : n = 16
    · subst h16; exact mulEv16 hx hy hm he hp hb
    · by_cases h24 : n = 24
      · subst h24; exact mulEv24 hx hy hm he hp hb
      · by_cases h32 : n = 32
        · subst h32; exact mulEv32 hx hy hm he hp hb
        · exact mulEvDef hm.hn2 hm.npos h16 h24 h32 hx hy hm he hp hb
  · exact mulOdd hx hy hm ho hXM hp hb
end Go.Proofs.Ytpojonfopoobpaa
