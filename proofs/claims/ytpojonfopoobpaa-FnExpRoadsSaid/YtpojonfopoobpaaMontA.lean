/-
  Contract: montgomeryMul.
-/
import Derived.Test.YtpojonfopoobpaaCopy
import Derived.Deep.DeepCutAuto
import Derived.Deep.CutBlock
namespace Go.Proofs.Ytpojonfopoobpaa
open Go.RowKit

/-- A row of n limbs 0. -/
def rowU (n : Nat) : Array Value := madeCells #[.int .u64 0] n
theorem Own.row (w : World) (n e : Nat) : Own .u64 (w.alloc (.cells (rowU n) e)) w.heap.size n (fun _ => 0) := Own.made .u64 w n e
theorem make_row (n c : Nat) (hn : n ≤ c) (hc : c ≤ 1048576) : ∀ w, (Instr.makeSlice 99 (.int .i64 n) (.int .i64 c)).run Try.prog w = .ok (.slice (some ⟨w.heap.size, 0, none⟩) n c) (w.alloc (.cells (rowU c) 63)) := make_uint n c hn hc
/-- The state of T between two rounds. -/
structure TAt (w wr : World) (t N n i S : Nat) : Prop where
  ex : ∃ f, Win n i S f ∧ Own .u64 wr t N f
  upd : Upd0 w wr
  lt : t < wr.heap.size

/-- Behind the copy: x has n limbs of the number. -/
def MidAt (w wx : World) (p b n S : Nat) : Prop := Grown w p b n S wx
theorem mid_of {w wr w5 w6 : World} {p b b1 c1 n S : Nat} {f : Nat → Nat} (hu : Upd0 w wr) (hx5 : NatAt w5 p b1 c1 n 0) (hb5 : NewB wr.drew b b1) (hu5 : Upd (fun k => k = p ∨ k = b) wr.drew w5)
    (h1 : Own .u64 w6 b1 n (fun i => if i < n then dg W64 S i else f i)) (h2 : ∀ i, n ≤ i → w6.cell? ⟨b1, i, none⟩ = w5.cell? ⟨b1, i, none⟩) (h3 : ∀ x, w6.frozen? x = w5.frozen? x) (hu6 : Upd (fun x => x = b1) w5 w6) : MidAt w w6 p b n (S % W64 ^ n) := by
  have hs := hu.size
  have hb : NewB w b b1 := by
    rcases hb5 with h | h
    · exact .inl h
    · exact .inr (Nat.le_trans hs h)
  exact ⟨b1, c1, hx5.written (Nat.mod_lt _ (Nat.pow_pos W64_pos)) (h1.congr (fun i hi => by rw [if_pos hi, dg_mod_lt W64_pos hi])) h2 h3 hu6, hb,
    ((Upd.mono (T := fun k => k = p ∨ k = b) hu (fun _ _ h => h.elim)).then hu5.of_drew (fun _ _ h => h)).then hu6 (fun i hi e => by rcases hb with h | h <;> omega)⟩
theorem amN_congr {f f' g : Nat → Nat} {y n : Nat} (h : ∀ i, i < n → f i = f' i) : amN f g y n = amN f' g y n := by
  unfold amN; rw [ofD_congr h]
/-- A write to T since w keeps the old blocks. -/
theorem Upd.fresh {t : Nat} {w wr w' : World} (h : Upd0 w wr) (k : Upd (fun x => x = t) wr w') (ht : w.heap.size ≤ t) : Upd0 w w' := h.then k (fun i hi e => by omega)

set_option maxRecDepth 100000 in
set_option maxHeartbeats 4000000 in
theorem mont16 (p b c nx X pa ba ca A pb bb cb B mp q bm cm M k : Nat) (w : World) (hx : NatAt w p b c nx X) (ha : NatAt w pa ba ca 16 A) (hb : NatAt w pb bb cb 16 B) (hm : MNat w mp q bm cm 16 M) (hkc : w.cell? ⟨mp, 2, none⟩ = some (.int .u64 k)) (hk : (k * M + 1) % W64 = 0) (h0 : 0 < M)
    (s1 : mp ≠ p) (s2 : mp ≠ b) (s3 : q ≠ p) (s4 : q ≠ b) (s5 : bm ≠ p) (s6 : bm ≠ b) :
    Calls Try.prog 91 #[.pointer (some ⟨p, 0, none⟩), .pointer (some ⟨pa, 0, none⟩), .pointer (some ⟨pb, 0, none⟩), .pointer (some ⟨mp, 0, none⟩)] w fun e w' => e = .returned (.pointer (some ⟨p, 0, none⟩)) ∧ Grown w p b 16 (mmN 16 k A B M) w' := by
  have c1 := hm.hm
  have c2 := hm.nat.hd
  have c3 := ha.hd
  have c4 := hb.hd
  have l1 := hm.nat.le
  have l2 := ha.le
  have l3 := hb.le
  have m1 := hm.nat.sm
  have m2 := ha.sm
  have m3 := hb.sm
  have hmk : ∀ w, (Instr.makeSlice 99 (.int .i64 32) (.int .i64 32)).run Try.prog w = .ok (.slice (some ⟨w.heap.size, 0, none⟩) 32 32) (w.alloc (.cells (rowU 32) 63)) := make_row 32 32 (by omega) (by omega)
  have hA := ha.lt
  have hM := hm.nat.lt
  have hT0 : TAt w (w.alloc (.cells (rowU 32) 63)) w.heap.size 32 16 0 (stN k A B M 0) := by
    exact ⟨⟨fun _ => 0, ⟨fun _ => W64_pos, fun j _ => by show 0 = dg W64 0 j; simp [dg], fun _ _ => rfl⟩, Own.row w 32 _⟩, (Upd.refl _ _).alloc _, by simp⟩
  have hlp := hx.hp
  have hlb := hx.hb
  have hlm := hm.hp
  have hlq := hm.nat.hp
  have hlbm := hm.nat.hb
  have hlba := ha.hb
  have hlbb := hb.hb
  go_enter Try.func91, Try.ntmps91
  go_wp2_with fail
  generalize w.alloc (.cells (rowU 32) 63) = w0 at *
  clear hmk
  go_loopw [21, 22] (fun s i wr => ∃ j z : Nat, j ≤ 16 ∧ i = .int .i64 j ∧ s = .int .u64 z ∧ z ≤ 1 ∧ Hid (z = stN k A B M j / W64 ^ 16) ∧ TAt w wr w.heap.size 32 16 j (stN k A B M j)) (fun _ i _ => 16 - (intOf i).toNat)
  case atStart => exact ⟨0, 0, by omega, rfl, rfl, by omega, by show 0 = 0 / W64 ^ 16; rw [Nat.zero_div], hT0⟩
  case round =>
    clear hT0
    obtain ⟨j, z, hj, rfl, rfl, hz, HZ, hT⟩ := hrel
    obtain ⟨f, hW, hO⟩ := hT.ex
    have hu := hT.upd
    have htl := hT.lt
    by_cases hlt : j < 16
    · obtain ⟨R1, R2, Y, c0, d1, d2, eR1, ec0, ed1, eY, eR2, ed2, ld1, ld2, ecar, hW2⟩ := hW.round (by omega) hA hM h0 hk
      obtain ⟨d, hd1, hd, HD⟩ := (hb.keep0 hu).limb hlt
      have i1 : (j : Int) < 16 := by omega
      have i2 : (0 : Int) ≤ (j : Int) := by omega
      have i3 : ((j : Int)).toNat = j := by omega
      have e1 := w64 ((j : Int) + 16) (by omega) (by omega)
      have e2 : ((j : Int) + 16).toNat = j + 16 := by omega
      have i4 : (j : Int) ≤ (j : Int) + 16 := by omega
      have i5 : (j : Int) + 16 ≤ 32 := by omega
      have i6 : (16 : Int) ≤ (ca : Int) := by omega
      have i7 : (16 : Int) ≤ (cm : Int) := by omega
      go_wp2_with fail
      go_still_tail 8, (by kernel_rfl)
      change wpList _ _ _ _ _ wr.drew
      rw [← HD.out] at eR1
      rw [← HZ.out] at ec0
      subst ec0
      have hcall := addMul_any w.heap.size 32 j 16 (32 - j) ba 16 ca d f (dg W64 A) wr.drew hO.drew (fun i _ => hW.lt i) (by omega) (by omega) (by omega) (ha.keep0 hu).drew.own (Nat.le_refl _) (by omega) (fun i _ => limb_lt _ _) (by omega) hd
      rw [← eR1, ← ed1] at hcall
      replace hcall := Lib.hid hcall
      replace eR1 := Lib.hid eR1
      replace ed1 := Lib.hid ed1
      replace eR2 := Lib.hid eR2
      replace ed2 := Lib.hid ed2
      replace eY := Lib.hid eY
      replace ecar := Lib.hid ecar
      go_wp2_with fail
      with_reducible refine hcall.out.mono ?_
      rintro e w1 ⟨rfl, hw1⟩
      have hu1 : Upd0 w w1 := Upd.fresh hu.drew hw1.upd (Nat.le_refl _)
      obtain ⟨r0, hr0, hr0l, HR0⟩ : ∃ r0 : Nat, w1.cell? ⟨w.heap.size, j, none⟩ = some (.int .u64 (r0 : Nat)) ∧ r0 < 18446744073709551616 ∧ Hid (r0 = dg W64 R1 0) :=
        ⟨dg W64 R1 0, by
          have h := hw1.own.cell j (by omega)
          rw [if_pos (by omega), Nat.sub_self] at h
          exact h, limb_lt _ _, rfl⟩
      have hk1 := hu1.cell (p := ⟨mp, 2, none⟩) id hkc
      have e3 := wrap_mul r0 k
      rw [HR0.out, ← eY.out, ← HR0.out] at e3
      have hYl : Y < 18446744073709551616 := by rw [eY.out]; exact mulW_lt _ _
      go_wp2_with fail
      go_quiet (fail)
      rename_i nq
      have hu2 := hu1.drewN nq
      have hw2 := hw1.drewN nq
      generalize w1.drewN nq = w2 at *
      go_wp2_with fail
      go_still_tail 8, (by kernel_rfl)
      change wpList _ _ _ _ _ w2.drew
      have hcall2 := addMul_any w.heap.size 32 j 16 (32 - j) bm 16 cm Y _ (dg W64 M) w2.drew hw2.own.drew (fun i hi => by
        by_cases e : j ≤ i ∧ i < j + 16
        · rw [if_pos e]; exact limb_lt _ _
        · rw [if_neg e]; exact hW.lt i) (by omega) (by omega) (by omega) (hm.nat.keep0 hu2).drew.own (Nat.le_refl _) (by omega) (fun i _ => limb_lt _ _) (by omega) hYl
      rw [amN_congr (f' := fun j => if j < 16 then dg W64 R1 j else 0) (fun i hi => by rw [if_pos (by omega), if_pos hi, Nat.add_sub_cancel_left]), ← eR2.out, ← ed2.out] at hcall2
      replace hcall2 := Lib.hid hcall2
      have hadd := fun w => bitsAdd_any d1 d2 c0 w hz ld1 ld2
      replace hadd := Lib.hid hadd
      go_wp2_with fail
      with_reducible refine hcall2.out.mono ?_
      rintro e w3 ⟨rfl, hw3⟩
      have hu3 : Upd0 w w3 := Upd.fresh hu2.drew hw3.upd (Nat.le_refl _)
      have hc3 := hw3.own.cell (16 + j) (by omega)
      have hf3 := hw3.own.free (16 + j) (by omega)
      have hset := hw3.own.set (show 16 + j < 32 by omega) (sumW d1 d2 c0)
      have hu4 := hu3.setCell ⟨w.heap.size, 16 + j, none⟩ (.int .u64 (sumW d1 d2 c0 : Nat)) (fun h => by exact absurd h (Nat.lt_irrefl _))
      have hO4 := hset.congr (g := fun j' => if j' = 16 + j then sumW d1 d2 c0 else if j ≤ j' ∧ j' < j + 16 then dg W64 R2 (j' - j) else f j') (fun i hi => by
        by_cases e : i = 16 + j
        · simp only [if_pos e]
        · simp only [if_neg e]
          by_cases e2 : j ≤ i ∧ i < j + 16
          · simp only [if_pos e2]
          · simp only [if_neg e2])
      have hl4 : w.heap.size < (w3.setCell ⟨w.heap.size, 16 + j, none⟩ (.int .u64 (sumW d1 d2 c0 : Nat))).heap.size := by
        rw [World.size_setCell]; exact Nat.lt_of_lt_of_le htl (Nat.le_trans hw2.upd.size hw3.upd.size)
      have hcle : carW d1 d2 c0 ≤ 1 := carW_le ld1 ld2 hz
      obtain ⟨sm, Hsm⟩ : ∃ sm, Hid (sm = sumW d1 d2 c0) := ⟨_, rfl⟩
      have e4 := w64 (16 + (j : Int)) (by omega) (by omega)
      go_wp2_with fail
      with_reducible refine (hadd.out _).mono ?_
      rintro e w' ⟨rfl, rfl⟩
      clear hset
      go_wp2_with fail
      go_roundw
      case rel => exact ⟨j + 1, carW d1 d2 c0, by omega, by go_num, rfl, hcle, ecar.out, ⟨⟨_, hW2, hO4⟩, hu4, hl4⟩⟩
      case measure => simp [intOf]; omega
    · obtain rfl : j = 16 := by omega
      have hx1 := hx.keep0 hu
      have hm1 := hm.keep0 hu
      have hsz := hu.size
      go_upto_region 33 with fail
      go_cut [] (fun wx => MidAt w wx p b 16 (stN k A B M 16 % W64 ^ 16))
      case first =>
        go_wp2_with fail
        have hcx := hx1.hd
        have hTr : Hid (∀ w5, Upd (fun k => k = p ∨ k = b) wr.drew w5 → Rd .u64 w5 (some ⟨w.heap.size, 16, none⟩) 16 (dg W64 (stN k A B M 16))) := fun w5 hu5 =>
          Rd.keepS ((hO.drew.rd.drop (show 16 ≤ 32 by omega)).congr (fun i hi => hW.dg i hi)) hu5 (by omega)
        have hreset : Calls Try.prog 105 #[.pointer (some ⟨p, 0, none⟩), .int .i64 16] wr.drew fun e w' => e = .returned (.pointer (some ⟨p, 0, none⟩)) ∧ Grown wr.drew p b 16 0 w' := reset_any p b c nx X 16 wr.drew hx1.drew (by omega)
        replace hreset := Lib.hid hreset
        go_region_with ((go_at_call 105; refine hreset.out.mono ?_; rintro e w5 ⟨rfl, b1, c1, hx5, hb5, hu5⟩; have hcell5 := hx5.hd; obtain ⟨w6, hr6, h61, h62, h63, hu6⟩ := run_copy_ints (P := Try.prog) (w := w5) 3 99 99 63 Try.underlying99 (by kernel_rfl) .u64 b1 16 c1 _ hx5.own (some ⟨w.heap.size, 16, none⟩) 16 16 _ (hTr.out w5 hu5); replace h61 := Lib.hid h61; replace h62 := Lib.hid h62; replace h63 := Lib.hid h63))
        all_goals (go_wp2_with fail; go_meet)
        all_goals exact mid_of hu hx5 hb5 hu5 h61.out h62.out h63.out hu6
      case rest =>
        obtain ⟨b1, c1, hx6, hb6, hu6⟩ := hcut
        have hm6 := hm.keep hu6 (by omega) (by omega) (by omega)
        have hms := maybeSub_any p b1 c1 16 (stN k A B M 16 % W64 ^ 16) z mp q bm cm M _ hx6 hm6 hz
        rw [show msN 16 z (stN k A B M 16 % W64 ^ 16) M = mmN 16 k A B M from by rw [HZ.out]; exact mmN_ms hA hM h0] at hms
        replace hms := Lib.hid hms
        go_wp2_with fail
        with_reducible refine hms.out.mono ?_
        rintro e w7 ⟨rfl, hx7, hu7⟩
        go_wp2_with fail
        go_ret
        exact ⟨rfl, b1, c1, hx7, hb6, hu6.then hu7 (fun i hi e => by rcases hb6 with h | h <;> omega)⟩
set_option maxRecDepth 100000 in
set_option maxHeartbeats 4000000 in
theorem mont24 (p b c nx X pa ba ca A pb bb cb B mp q bm cm M k : Nat) (w : World) (hx : NatAt w p b c nx X) (ha : NatAt w pa ba ca 24 A) (hb : NatAt w pb bb cb 24 B) (hm : MNat w mp q bm cm 24 M) (hkc : w.cell? ⟨mp, 2, none⟩ = some (.int .u64 k)) (hk : (k * M + 1) % W64 = 0) (h0 : 0 < M)
    (s1 : mp ≠ p) (s2 : mp ≠ b) (s3 : q ≠ p) (s4 : q ≠ b) (s5 : bm ≠ p) (s6 : bm ≠ b) :
    Calls Try.prog 91 #[.pointer (some ⟨p, 0, none⟩), .pointer (some ⟨pa, 0, none⟩), .pointer (some ⟨pb, 0, none⟩), .pointer (some ⟨mp, 0, none⟩)] w fun e w' => e = .returned (.pointer (some ⟨p, 0, none⟩)) ∧ Grown w p b 24 (mmN 24 k A B M) w' := by
  have c1 := hm.hm
  have c2 := hm.nat.hd
  have c3 := ha.hd
  have c4 := hb.hd
  have l1 := hm.nat.le
  have l2 := ha.le
  have l3 := hb.le
  have m1 := hm.nat.sm
  have m2 := ha.sm
  have m3 := hb.sm
  have hmk : ∀ w, (Instr.makeSlice 99 (.int .i64 48) (.int .i64 48)).run Try.prog w = .ok (.slice (some ⟨w.heap.size, 0, none⟩) 48 48) (w.alloc (.cells (rowU 48) 63)) := make_row 48 48 (by omega) (by omega)
  have hA := ha.lt
  have hM := hm.nat.lt
  have hT0 : TAt w (w.alloc (.cells (rowU 48) 63)) w.heap.size 48 24 0 (stN k A B M 0) := by
    exact ⟨⟨fun _ => 0, ⟨fun _ => W64_pos, fun j _ => by show 0 = dg W64 0 j; simp [dg], fun _ _ => rfl⟩, Own.row w 48 _⟩, (Upd.refl _ _).alloc _, by simp⟩
  have hlp := hx.hp
  have hlb := hx.hb
  have hlm := hm.hp
  have hlq := hm.nat.hp
  have hlbm := hm.nat.hb
  have hlba := ha.hb
  have hlbb := hb.hb
  go_enter Try.func91, Try.ntmps91
  go_wp2_with fail
  generalize w.alloc (.cells (rowU 48) 63) = w0 at *
  clear hmk
  go_loopw [28, 29] (fun s i wr => ∃ j z : Nat, j ≤ 24 ∧ i = .int .i64 j ∧ s = .int .u64 z ∧ z ≤ 1 ∧ Hid (z = stN k A B M j / W64 ^ 24) ∧ TAt w wr w.heap.size 48 24 j (stN k A B M j)) (fun _ i _ => 24 - (intOf i).toNat)
  case atStart => exact ⟨0, 0, by omega, rfl, rfl, by omega, by show 0 = 0 / W64 ^ 24; rw [Nat.zero_div], hT0⟩
  case round =>
    clear hT0
    obtain ⟨j, z, hj, rfl, rfl, hz, HZ, hT⟩ := hrel
    obtain ⟨f, hW, hO⟩ := hT.ex
    have hu := hT.upd
    have htl := hT.lt
    by_cases hlt : j < 24
    · obtain ⟨R1, R2, Y, c0, d1, d2, eR1, ec0, ed1, eY, eR2, ed2, ld1, ld2, ecar, hW2⟩ := hW.round (by omega) hA hM h0 hk
      obtain ⟨d, hd1, hd, HD⟩ := (hb.keep0 hu).limb hlt
      have i1 : (j : Int) < 24 := by omega
      have i2 : (0 : Int) ≤ (j : Int) := by omega
      have i3 : ((j : Int)).toNat = j := by omega
      have e1 := w64 ((j : Int) + 24) (by omega) (by omega)
      have e2 : ((j : Int) + 24).toNat = j + 24 := by omega
      have i4 : (j : Int) ≤ (j : Int) + 24 := by omega
      have i5 : (j : Int) + 24 ≤ 48 := by omega
      have i6 : (24 : Int) ≤ (ca : Int) := by omega
      have i7 : (24 : Int) ≤ (cm : Int) := by omega
      go_wp2_with fail
      go_still_tail 8, (by kernel_rfl)
      change wpList _ _ _ _ _ wr.drew
      rw [← HD.out] at eR1
      rw [← HZ.out] at ec0
      subst ec0
      have hcall := addMul_any w.heap.size 48 j 24 (48 - j) ba 24 ca d f (dg W64 A) wr.drew hO.drew (fun i _ => hW.lt i) (by omega) (by omega) (by omega) (ha.keep0 hu).drew.own (Nat.le_refl _) (by omega) (fun i _ => limb_lt _ _) (by omega) hd
      rw [← eR1, ← ed1] at hcall
      replace hcall := Lib.hid hcall
      replace eR1 := Lib.hid eR1
      replace ed1 := Lib.hid ed1
      replace eR2 := Lib.hid eR2
      replace ed2 := Lib.hid ed2
      replace eY := Lib.hid eY
      replace ecar := Lib.hid ecar
      go_wp2_with fail
      with_reducible refine hcall.out.mono ?_
      rintro e w1 ⟨rfl, hw1⟩
      have hu1 : Upd0 w w1 := Upd.fresh hu.drew hw1.upd (Nat.le_refl _)
      obtain ⟨r0, hr0, hr0l, HR0⟩ : ∃ r0 : Nat, w1.cell? ⟨w.heap.size, j, none⟩ = some (.int .u64 (r0 : Nat)) ∧ r0 < 18446744073709551616 ∧ Hid (r0 = dg W64 R1 0) :=
        ⟨dg W64 R1 0, by
          have h := hw1.own.cell j (by omega)
          rw [if_pos (by omega), Nat.sub_self] at h
          exact h, limb_lt _ _, rfl⟩
      have hk1 := hu1.cell (p := ⟨mp, 2, none⟩) id hkc
      have e3 := wrap_mul r0 k
      rw [HR0.out, ← eY.out, ← HR0.out] at e3
      have hYl : Y < 18446744073709551616 := by rw [eY.out]; exact mulW_lt _ _
      go_wp2_with fail
      go_quiet (fail)
      rename_i nq
      have hu2 := hu1.drewN nq
      have hw2 := hw1.drewN nq
      generalize w1.drewN nq = w2 at *
      go_wp2_with fail
      go_still_tail 8, (by kernel_rfl)
      change wpList _ _ _ _ _ w2.drew
      have hcall2 := addMul_any w.heap.size 48 j 24 (48 - j) bm 24 cm Y _ (dg W64 M) w2.drew hw2.own.drew (fun i hi => by
        by_cases e : j ≤ i ∧ i < j + 24
        · rw [if_pos e]; exact limb_lt _ _
        · rw [if_neg e]; exact hW.lt i) (by omega) (by omega) (by omega) (hm.nat.keep0 hu2).drew.own (Nat.le_refl _) (by omega) (fun i _ => limb_lt _ _) (by omega) hYl
      rw [amN_congr (f' := fun j => if j < 24 then dg W64 R1 j else 0) (fun i hi => by rw [if_pos (by omega), if_pos hi, Nat.add_sub_cancel_left]), ← eR2.out, ← ed2.out] at hcall2
      replace hcall2 := Lib.hid hcall2
      have hadd := fun w => bitsAdd_any d1 d2 c0 w hz ld1 ld2
      replace hadd := Lib.hid hadd
      go_wp2_with fail
      with_reducible refine hcall2.out.mono ?_
      rintro e w3 ⟨rfl, hw3⟩
      have hu3 : Upd0 w w3 := Upd.fresh hu2.drew hw3.upd (Nat.le_refl _)
      have hc3 := hw3.own.cell (24 + j) (by omega)
      have hf3 := hw3.own.free (24 + j) (by omega)
      have hset := hw3.own.set (show 24 + j < 48 by omega) (sumW d1 d2 c0)
      have hu4 := hu3.setCell ⟨w.heap.size, 24 + j, none⟩ (.int .u64 (sumW d1 d2 c0 : Nat)) (fun h => by exact absurd h (Nat.lt_irrefl _))
      have hO4 := hset.congr (g := fun j' => if j' = 24 + j then sumW d1 d2 c0 else if j ≤ j' ∧ j' < j + 24 then dg W64 R2 (j' - j) else f j') (fun i hi => by
        by_cases e : i = 24 + j
        · simp only [if_pos e]
        · simp only [if_neg e]
          by_cases e2 : j ≤ i ∧ i < j + 24
          · simp only [if_pos e2]
          · simp only [if_neg e2])
      have hl4 : w.heap.size < (w3.setCell ⟨w.heap.size, 24 + j, none⟩ (.int .u64 (sumW d1 d2 c0 : Nat))).heap.size := by
        rw [World.size_setCell]; exact Nat.lt_of_lt_of_le htl (Nat.le_trans hw2.upd.size hw3.upd.size)
      have hcle : carW d1 d2 c0 ≤ 1 := carW_le ld1 ld2 hz
      obtain ⟨sm, Hsm⟩ : ∃ sm, Hid (sm = sumW d1 d2 c0) := ⟨_, rfl⟩
      have e4 := w64 (24 + (j : Int)) (by omega) (by omega)
      go_wp2_with fail
      with_reducible refine (hadd.out _).mono ?_
      rintro e w' ⟨rfl, rfl⟩
      clear hset
      go_wp2_with fail
      go_roundw
      case rel => exact ⟨j + 1, carW d1 d2 c0, by omega, by go_num, rfl, hcle, ecar.out, ⟨⟨_, hW2, hO4⟩, hu4, hl4⟩⟩
      case measure => simp [intOf]; omega
    · obtain rfl : j = 24 := by omega
      have hx1 := hx.keep0 hu
      have hm1 := hm.keep0 hu
      have hsz := hu.size
      go_upto_region 46 with fail
      go_cut [] (fun wx => MidAt w wx p b 24 (stN k A B M 24 % W64 ^ 24))
      case first =>
        go_wp2_with fail
        have hcx := hx1.hd
        have hTr : Hid (∀ w5, Upd (fun k => k = p ∨ k = b) wr.drew w5 → Rd .u64 w5 (some ⟨w.heap.size, 24, none⟩) 24 (dg W64 (stN k A B M 24))) := fun w5 hu5 =>
          Rd.keepS ((hO.drew.rd.drop (show 24 ≤ 48 by omega)).congr (fun i hi => hW.dg i hi)) hu5 (by omega)
        have hreset : Calls Try.prog 105 #[.pointer (some ⟨p, 0, none⟩), .int .i64 24] wr.drew fun e w' => e = .returned (.pointer (some ⟨p, 0, none⟩)) ∧ Grown wr.drew p b 24 0 w' := reset_any p b c nx X 24 wr.drew hx1.drew (by omega)
        replace hreset := Lib.hid hreset
        go_region_with ((go_at_call 105; refine hreset.out.mono ?_; rintro e w5 ⟨rfl, b1, c1, hx5, hb5, hu5⟩; have hcell5 := hx5.hd; obtain ⟨w6, hr6, h61, h62, h63, hu6⟩ := run_copy_ints (P := Try.prog) (w := w5) 3 99 99 63 Try.underlying99 (by kernel_rfl) .u64 b1 24 c1 _ hx5.own (some ⟨w.heap.size, 24, none⟩) 24 24 _ (hTr.out w5 hu5); replace h61 := Lib.hid h61; replace h62 := Lib.hid h62; replace h63 := Lib.hid h63))
        all_goals (go_wp2_with fail; go_meet)
        all_goals exact mid_of hu hx5 hb5 hu5 h61.out h62.out h63.out hu6
      case rest =>
        obtain ⟨b1, c1, hx6, hb6, hu6⟩ := hcut
        have hm6 := hm.keep hu6 (by omega) (by omega) (by omega)
        have hms := maybeSub_any p b1 c1 24 (stN k A B M 24 % W64 ^ 24) z mp q bm cm M _ hx6 hm6 hz
        rw [show msN 24 z (stN k A B M 24 % W64 ^ 24) M = mmN 24 k A B M from by rw [HZ.out]; exact mmN_ms hA hM h0] at hms
        replace hms := Lib.hid hms
        go_wp2_with fail
        with_reducible refine hms.out.mono ?_
        rintro e w7 ⟨rfl, hx7, hu7⟩
        go_wp2_with fail
        go_ret
        exact ⟨rfl, b1, c1, hx7, hb6, hu6.then hu7 (fun i hi e => by rcases hb6 with h | h <;> omega)⟩
set_option maxRecDepth 100000 in
set_option maxHeartbeats 4000000 in
theorem mont32 (p b c nx X pa ba ca A pb bb cb B mp q bm cm M k : Nat) (w : World) (hx : NatAt w p b c nx X) (ha : NatAt w pa ba ca 32 A) (hb : NatAt w pb bb cb 32 B) (hm : MNat w mp q bm cm 32 M) (hkc : w.cell? ⟨mp, 2, none⟩ = some (.int .u64 k)) (hk : (k * M + 1) % W64 = 0) (h0 : 0 < M)
    (s1 : mp ≠ p) (s2 : mp ≠ b) (s3 : q ≠ p) (s4 : q ≠ b) (s5 : bm ≠ p) (s6 : bm ≠ b) :
    Calls Try.prog 91 #[.pointer (some ⟨p, 0, none⟩), .pointer (some ⟨pa, 0, none⟩), .pointer (some ⟨pb, 0, none⟩), .pointer (some ⟨mp, 0, none⟩)] w fun e w' => e = .returned (.pointer (some ⟨p, 0, none⟩)) ∧ Grown w p b 32 (mmN 32 k A B M) w' := by
  have c1 := hm.hm
  have c2 := hm.nat.hd
  have c3 := ha.hd
  have c4 := hb.hd
  have l1 := hm.nat.le
  have l2 := ha.le
  have l3 := hb.le
  have m1 := hm.nat.sm
  have m2 := ha.sm
  have m3 := hb.sm
  have hmk : ∀ w, (Instr.makeSlice 99 (.int .i64 64) (.int .i64 64)).run Try.prog w = .ok (.slice (some ⟨w.heap.size, 0, none⟩) 64 64) (w.alloc (.cells (rowU 64) 63)) := make_row 64 64 (by omega) (by omega)
  have hA := ha.lt
  have hM := hm.nat.lt
  have hT0 : TAt w (w.alloc (.cells (rowU 64) 63)) w.heap.size 64 32 0 (stN k A B M 0) := by
    exact ⟨⟨fun _ => 0, ⟨fun _ => W64_pos, fun j _ => by show 0 = dg W64 0 j; simp [dg], fun _ _ => rfl⟩, Own.row w 64 _⟩, (Upd.refl _ _).alloc _, by simp⟩
  have hlp := hx.hp
  have hlb := hx.hb
  have hlm := hm.hp
  have hlq := hm.nat.hp
  have hlbm := hm.nat.hb
  have hlba := ha.hb
  have hlbb := hb.hb
  go_enter Try.func91, Try.ntmps91
  go_wp2_with fail
  generalize w.alloc (.cells (rowU 64) 63) = w0 at *
  clear hmk
  go_loopw [35, 36] (fun s i wr => ∃ j z : Nat, j ≤ 32 ∧ i = .int .i64 j ∧ s = .int .u64 z ∧ z ≤ 1 ∧ Hid (z = stN k A B M j / W64 ^ 32) ∧ TAt w wr w.heap.size 64 32 j (stN k A B M j)) (fun _ i _ => 32 - (intOf i).toNat)
  case atStart => exact ⟨0, 0, by omega, rfl, rfl, by omega, by show 0 = 0 / W64 ^ 32; rw [Nat.zero_div], hT0⟩
  case round =>
    clear hT0
    obtain ⟨j, z, hj, rfl, rfl, hz, HZ, hT⟩ := hrel
    obtain ⟨f, hW, hO⟩ := hT.ex
    have hu := hT.upd
    have htl := hT.lt
    by_cases hlt : j < 32
    · obtain ⟨R1, R2, Y, c0, d1, d2, eR1, ec0, ed1, eY, eR2, ed2, ld1, ld2, ecar, hW2⟩ := hW.round (by omega) hA hM h0 hk
      obtain ⟨d, hd1, hd, HD⟩ := (hb.keep0 hu).limb hlt
      have i1 : (j : Int) < 32 := by omega
      have i2 : (0 : Int) ≤ (j : Int) := by omega
      have i3 : ((j : Int)).toNat = j := by omega
      have e1 := w64 ((j : Int) + 32) (by omega) (by omega)
      have e2 : ((j : Int) + 32).toNat = j + 32 := by omega
      have i4 : (j : Int) ≤ (j : Int) + 32 := by omega
      have i5 : (j : Int) + 32 ≤ 64 := by omega
      have i6 : (32 : Int) ≤ (ca : Int) := by omega
      have i7 : (32 : Int) ≤ (cm : Int) := by omega
      go_wp2_with fail
      go_still_tail 8, (by kernel_rfl)
      change wpList _ _ _ _ _ wr.drew
      rw [← HD.out] at eR1
      rw [← HZ.out] at ec0
      subst ec0
      have hcall := addMul_any w.heap.size 64 j 32 (64 - j) ba 32 ca d f (dg W64 A) wr.drew hO.drew (fun i _ => hW.lt i) (by omega) (by omega) (by omega) (ha.keep0 hu).drew.own (Nat.le_refl _) (by omega) (fun i _ => limb_lt _ _) (by omega) hd
      rw [← eR1, ← ed1] at hcall
      replace hcall := Lib.hid hcall
      replace eR1 := Lib.hid eR1
      replace ed1 := Lib.hid ed1
      replace eR2 := Lib.hid eR2
      replace ed2 := Lib.hid ed2
      replace eY := Lib.hid eY
      replace ecar := Lib.hid ecar
      go_wp2_with fail
      with_reducible refine hcall.out.mono ?_
      rintro e w1 ⟨rfl, hw1⟩
      have hu1 : Upd0 w w1 := Upd.fresh hu.drew hw1.upd (Nat.le_refl _)
      obtain ⟨r0, hr0, hr0l, HR0⟩ : ∃ r0 : Nat, w1.cell? ⟨w.heap.size, j, none⟩ = some (.int .u64 (r0 : Nat)) ∧ r0 < 18446744073709551616 ∧ Hid (r0 = dg W64 R1 0) :=
        ⟨dg W64 R1 0, by
          have h := hw1.own.cell j (by omega)
          rw [if_pos (by omega), Nat.sub_self] at h
          exact h, limb_lt _ _, rfl⟩
      have hk1 := hu1.cell (p := ⟨mp, 2, none⟩) id hkc
      have e3 := wrap_mul r0 k
      rw [HR0.out, ← eY.out, ← HR0.out] at e3
      have hYl : Y < 18446744073709551616 := by rw [eY.out]; exact mulW_lt _ _
      go_wp2_with fail
      go_quiet (fail)
      rename_i nq
      have hu2 := hu1.drewN nq
      have hw2 := hw1.drewN nq
      generalize w1.drewN nq = w2 at *
      go_wp2_with fail
      go_still_tail 8, (by kernel_rfl)
      change wpList _ _ _ _ _ w2.drew
      have hcall2 := addMul_any w.heap.size 64 j 32 (64 - j) bm 32 cm Y _ (dg W64 M) w2.drew hw2.own.drew (fun i hi => by
        by_cases e : j ≤ i ∧ i < j + 32
        · rw [if_pos e]; exact limb_lt _ _
        · rw [if_neg e]; exact hW.lt i) (by omega) (by omega) (by omega) (hm.nat.keep0 hu2).drew.own (Nat.le_refl _) (by omega) (fun i _ => limb_lt _ _) (by omega) hYl
      rw [amN_congr (f' := fun j => if j < 32 then dg W64 R1 j else 0) (fun i hi => by rw [if_pos (by omega), if_pos hi, Nat.add_sub_cancel_left]), ← eR2.out, ← ed2.out] at hcall2
      replace hcall2 := Lib.hid hcall2
      have hadd := fun w => bitsAdd_any d1 d2 c0 w hz ld1 ld2
      replace hadd := Lib.hid hadd
      go_wp2_with fail
      with_reducible refine hcall2.out.mono ?_
      rintro e w3 ⟨rfl, hw3⟩
      have hu3 : Upd0 w w3 := Upd.fresh hu2.drew hw3.upd (Nat.le_refl _)
      have hc3 := hw3.own.cell (32 + j) (by omega)
      have hf3 := hw3.own.free (32 + j) (by omega)
      have hset := hw3.own.set (show 32 + j < 64 by omega) (sumW d1 d2 c0)
      have hu4 := hu3.setCell ⟨w.heap.size, 32 + j, none⟩ (.int .u64 (sumW d1 d2 c0 : Nat)) (fun h => by exact absurd h (Nat.lt_irrefl _))
      have hO4 := hset.congr (g := fun j' => if j' = 32 + j then sumW d1 d2 c0 else if j ≤ j' ∧ j' < j + 32 then dg W64 R2 (j' - j) else f j') (fun i hi => by
        by_cases e : i = 32 + j
        · simp only [if_pos e]
        · simp only [if_neg e]
          by_cases e2 : j ≤ i ∧ i < j + 32
          · simp only [if_pos e2]
          · simp only [if_neg e2])
      have hl4 : w.heap.size < (w3.setCell ⟨w.heap.size, 32 + j, none⟩ (.int .u64 (sumW d1 d2 c0 : Nat))).heap.size := by
        rw [World.size_setCell]; exact Nat.lt_of_lt_of_le htl (Nat.le_trans hw2.upd.size hw3.upd.size)
      have hcle : carW d1 d2 c0 ≤ 1 := carW_le ld1 ld2 hz
      obtain ⟨sm, Hsm⟩ : ∃ sm, Hid (sm = sumW d1 d2 c0) := ⟨_, rfl⟩
      have e4 := w64 (32 + (j : Int)) (by omega) (by omega)
      go_wp2_with fail
      with_reducible refine (hadd.out _).mono ?_
      rintro e w' ⟨rfl, rfl⟩
      clear hset
      go_wp2_with fail
      go_roundw
      case rel => exact ⟨j + 1, carW d1 d2 c0, by omega, by go_num, rfl, hcle, ecar.out, ⟨⟨_, hW2, hO4⟩, hu4, hl4⟩⟩
      case measure => simp [intOf]; omega
    · obtain rfl : j = 32 := by omega
      have hx1 := hx.keep0 hu
      have hm1 := hm.keep0 hu
      have hsz := hu.size
      go_upto_region 59 with fail
      go_cut [] (fun wx => MidAt w wx p b 32 (stN k A B M 32 % W64 ^ 32))
      case first =>
        go_wp2_with fail
        have hcx := hx1.hd
        have hTr : Hid (∀ w5, Upd (fun k => k = p ∨ k = b) wr.drew w5 → Rd .u64 w5 (some ⟨w.heap.size, 32, none⟩) 32 (dg W64 (stN k A B M 32))) := fun w5 hu5 =>
          Rd.keepS ((hO.drew.rd.drop (show 32 ≤ 64 by omega)).congr (fun i hi => hW.dg i hi)) hu5 (by omega)
        have hreset : Calls Try.prog 105 #[.pointer (some ⟨p, 0, none⟩), .int .i64 32] wr.drew fun e w' => e = .returned (.pointer (some ⟨p, 0, none⟩)) ∧ Grown wr.drew p b 32 0 w' := reset_any p b c nx X 32 wr.drew hx1.drew (by omega)
        replace hreset := Lib.hid hreset
        go_region_with ((go_at_call 105; refine hreset.out.mono ?_; rintro e w5 ⟨rfl, b1, c1, hx5, hb5, hu5⟩; have hcell5 := hx5.hd; obtain ⟨w6, hr6, h61, h62, h63, hu6⟩ := run_copy_ints (P := Try.prog) (w := w5) 3 99 99 63 Try.underlying99 (by kernel_rfl) .u64 b1 32 c1 _ hx5.own (some ⟨w.heap.size, 32, none⟩) 32 32 _ (hTr.out w5 hu5); replace h61 := Lib.hid h61; replace h62 := Lib.hid h62; replace h63 := Lib.hid h63))
        all_goals (go_wp2_with fail; go_meet)
        all_goals exact mid_of hu hx5 hb5 hu5 h61.out h62.out h63.out hu6
      case rest =>
        obtain ⟨b1, c1, hx6, hb6, hu6⟩ := hcut
        have hm6 := hm.keep hu6 (by omega) (by omega) (by omega)
        have hms := maybeSub_any p b1 c1 32 (stN k A B M 32 % W64 ^ 32) z mp q bm cm M _ hx6 hm6 hz
        rw [show msN 32 z (stN k A B M 32 % W64 ^ 32) M = mmN 32 k A B M from by rw [HZ.out]; exact mmN_ms hA hM h0] at hms
        replace hms := Lib.hid hms
        go_wp2_with fail
        with_reducible refine hms.out.mono ?_
        rintro e w7 ⟨rfl, hx7, hu7⟩
        go_wp2_with fail
        go_ret
        exact ⟨rfl, b1, c1, hx7, hb6, hu6.then hu7 (fun i hi e => by rcases hb6 with h | h <;> omega)⟩
end Go.Proofs.Ytpojonfopoobpaa
