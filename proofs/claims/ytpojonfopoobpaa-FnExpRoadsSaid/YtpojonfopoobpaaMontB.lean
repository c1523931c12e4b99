/-
  Contract: montgomeryMul, the general case, and all cases together.
-/
import Derived.Test.YtpojonfopoobpaaMontA
namespace Go.Proofs.Ytpojonfopoobpaa
open Go.RowKit

/-- The slice T of the general case, before it is cut. -/
def TPre (w : World) (n : Nat) (t : Value) (wx : World) : Prop :=
  ∃ tb cap, t = .slice (some ⟨tb, 0, none⟩) 0 cap ∧ 2 * n ≤ cap ∧ cap ≤ 65536 ∧ w.heap.size ≤ tb ∧ TAt w wx tb cap n 0 0
theorem Own.rdFrom {k : IntKind} {w : World} {b n m : Nat} {f : Nat → Nat} (h : Own k w b n f) (hm : m ≤ n) : Rd k w (some ⟨b, m, none⟩) (n - m) (fun i => f (m + i)) := by
  have h1 := h.rd.drop hm
  rw [Nat.zero_add] at h1
  exact h1
theorem win_zero (n S : Nat) (hS : S = 0) : Win n 0 S (fun _ => 0) := by
  subst hS
  exact ⟨fun _ => W64_pos, fun j _ => by simp [dg], fun _ _ => rfl⟩

set_option maxRecDepth 100000 in
set_option maxHeartbeats 4000000 in
theorem montDef (n p b c nx X pa ba ca A pb bb cb B mp q bm cm M k : Nat) (w : World) (hn : n ≤ 16384) (hn0 : 1 ≤ n) (n16 : n ≠ 16) (n24 : n ≠ 24) (n32 : n ≠ 32) (hx : NatAt w p b c nx X) (ha : NatAt w pa ba ca n A) (hb : NatAt w pb bb cb n B) (hm : MNat w mp q bm cm n M) (hkc : w.cell? ⟨mp, 2, none⟩ = some (.int .u64 k)) (hk : (k * M + 1) % W64 = 0) (h0 : 0 < M)
    (s1 : mp ≠ p) (s2 : mp ≠ b) (s3 : q ≠ p) (s4 : q ≠ b) (s5 : bm ≠ p) (s6 : bm ≠ b) :
    Calls Try.prog 91 #[.pointer (some ⟨p, 0, none⟩), .pointer (some ⟨pa, 0, none⟩), .pointer (some ⟨pb, 0, none⟩), .pointer (some ⟨mp, 0, none⟩)] w fun e w' => e = .returned (.pointer (some ⟨p, 0, none⟩)) ∧ Grown w p b n (mmN n k A B M) w' := by
  have c1 := hm.hm
  have c2 := hm.nat.hd
  have c3 := ha.hd
  have c4 := hb.hd
  have l1 := hm.nat.le
  have l2 := ha.le
  have l3 := hb.le
  have m1 := hm.nat.sm
  have m2 := ha.sm
  have m3 := hb.sm
  have hmk : ∀ w, (Instr.makeSlice 99 (.int .i64 0) (.int .i64 64)).run Try.prog w = .ok (.slice (some ⟨w.heap.size, 0, none⟩) 0 64) (w.alloc (.cells (rowU 64) 63)) := make_row 0 64 (by omega) (by omega)
  have hmk2 : ∀ w, (Instr.makeSlice 99 (.int .i64 0) (.int .i64 ((n : Int) * 2))).run Try.prog w = .ok (.slice (some ⟨w.heap.size, 0, none⟩) 0 (n * 2)) (w.alloc (.cells (rowU (n * 2)) 63)) := fun w => by
    have := make_row 0 (n * 2) (by omega) (by omega) w
    rw [show (((n * 2 : Nat)) : Int) = (n : Int) * 2 by simp] at this
    exact this
  have hA := ha.lt
  have hM := hm.nat.lt
  have hlp := hx.hp
  have hlb := hx.hb
  have hlm := hm.hp
  have hlq := hm.nat.hp
  have hlbm := hm.nat.hb
  have hlba := ha.hb
  have hlbb := hb.hb
  have q16 : ((n : Int) == 16) = false := by rw [beq_eq_false_iff_ne]; omega
  have q24 : ((n : Int) == 24) = false := by rw [beq_eq_false_iff_ne]; omega
  have q32 : ((n : Int) == 32) = false := by rw [beq_eq_false_iff_ne]; omega
  go_enter Try.func91, Try.ntmps91
  go_upto_if 76 with fail
  clear q16 q24 q32
  go_cut [13] (fun t wx => TPre w n t wx)
  case first => as_aux_lemma =>
    by_cases h64 : 64 < n * 2
    · have h64' : (64 : Int) < (n : Int) * 2 := by omega
      go_wp2_with fail
      go_meet
      have hu1 : Upd0 w (w.alloc (.cells (rowU 64) 63)) := (Upd.refl _ _).alloc _
      have ho := Own.row (w.alloc (.cells (rowU 64) 63)) (n * 2) 63
      rw [show (w.alloc (.cells (rowU 64) 63)).heap.size = w.heap.size + 1 by simp] at ho
      exact ⟨_, n * 2, rfl, by omega, by omega, by omega, ⟨⟨fun _ => 0, win_zero n 0 rfl, ho⟩, hu1.trans ((Upd.refl _ _).alloc _), by simp⟩⟩
    · have h64' : ¬ (64 : Int) < (n : Int) * 2 := by omega
      go_wp2_with fail
      go_meet
      exact ⟨_, 64, rfl, by omega, by omega, by simp, ⟨⟨fun _ => 0, win_zero n 0 rfl, Own.row _ 64 _⟩, (Upd.refl _ _).alloc _, by simp⟩⟩
  case rest =>
    clear hmk hmk2
    obtain ⟨tb, cap, rfl, hcap1, hcap2, htb, hT0⟩ := hcut
    have i0 : (n : Int) * 2 ≤ (cap : Int) := by omega
    go_wp2_with fail
    go_loopw [14, 15] (fun s i wr => ∃ j z : Nat, j ≤ n ∧ i = .int .i64 j ∧ s = .int .u64 z ∧ z ≤ 1 ∧ Hid (z = stN k A B M j / W64 ^ n) ∧ TAt w wr tb cap n j (stN k A B M j)) (fun _ i _ => n - (intOf i).toNat)
    case atStart => exact ⟨0, 0, by omega, rfl, rfl, by omega, by show 0 = 0 / W64 ^ n; rw [Nat.zero_div], hT0⟩
    case round =>
      clear hT0
      obtain ⟨j, z, hj, rfl, rfl, hz, HZ, hT⟩ := hrel
      obtain ⟨f, hW, hO⟩ := hT.ex
      have hu := hT.upd
      have htl := hT.lt
      by_cases hlt : j < n
      · as_aux_lemma =>
        obtain ⟨R1, R2, Y, c0, d1, d2, eR1, ec0, ed1, eY, eR2, ed2, ld1, ld2, ecar, hW2⟩ := hW.round (by omega) hA hM h0 hk
        obtain ⟨d, hd1, hd, HD⟩ := (hb.keep0 hu).limb hlt
        have i1 : (j : Int) < (n : Int) := by omega
        have i2 : (0 : Int) ≤ (j : Int) := by omega
        have i3 : ((j : Int)).toNat = j := by omega
        have e1 := w64 ((n : Int) + (j : Int)) (by omega) (by omega)
        have e2 : ((n : Int) + (j : Int)).toNat = n + j := by omega
        have i4 : (j : Int) ≤ (n : Int) + (j : Int) := by omega
        have i5 : (n : Int) + (j : Int) ≤ (cap : Int) := by omega
        have i6 : (n : Int) + (j : Int) < (n : Int) * 2 := by omega
        have i7 : (j : Int) < (n : Int) * 2 := by omega
        have i8 : (j : Int) < (cap : Int) := by omega
        have hc14 := hO.cell (n + j) (by omega)
        rw [← HD.out] at eR1
        rw [← HZ.out] at ec0
        subst ec0
        have hcall := addMul_any tb cap j n (cap - j) ba n ca d f (dg W64 A) wr hO (fun i _ => hW.lt i) (by omega) (by omega) (by omega) (ha.keep0 hu).own (Nat.le_refl _) (by omega) (fun i _ => limb_lt _ _) (by omega) hd
        rw [← eR1, ← ed1] at hcall
        replace hcall := Lib.hid hcall
        replace eR1 := Lib.hid eR1
        replace ed1 := Lib.hid ed1
        replace eR2 := Lib.hid eR2
        replace ed2 := Lib.hid ed2
        replace eY := Lib.hid eY
        replace ecar := Lib.hid ecar
        go_wp2_with fail
        with_reducible refine hcall.out.mono ?_
        rintro e w1 ⟨rfl, hw1⟩
        clear hc14
        have hu1 : Upd0 w w1 := Upd.fresh hu hw1.upd htb
        obtain ⟨r0, hr0, hr0l, HR0⟩ : ∃ r0 : Nat, w1.cell? ⟨tb, j, none⟩ = some (.int .u64 (r0 : Nat)) ∧ r0 < 18446744073709551616 ∧ Hid (r0 = dg W64 R1 0) :=
          ⟨dg W64 R1 0, by
            have h := hw1.own.cell j (by omega)
            rw [if_pos (by omega), Nat.sub_self] at h
            exact h, limb_lt _ _, rfl⟩
        have hk1 := hu1.cell (p := ⟨mp, 2, none⟩) id hkc
        have e3 := wrap_mul r0 k
        rw [HR0.out, ← eY.out, ← HR0.out] at e3
        have hYl : Y < 18446744073709551616 := by rw [eY.out]; exact mulW_lt _ _
        go_wp2_with fail
        go_quiet (fail)
        rename_i nq
        have hu2 := hu1.drewN nq
        have hw2 := hw1.drewN nq
        generalize w1.drewN nq = w2 at *
        have hcall2 := addMul_any tb cap j n (cap - j) bm n cm Y _ (dg W64 M) w2 hw2.own (fun i hi => by
          by_cases e : j ≤ i ∧ i < j + n
          · rw [if_pos e]; exact limb_lt _ _
          · rw [if_neg e]; exact hW.lt i) (by omega) (by omega) (by omega) (hm.nat.keep0 hu2).own (Nat.le_refl _) (by omega) (fun i _ => limb_lt _ _) (by omega) hYl
        rw [amN_congr (f' := fun j => if j < n then dg W64 R1 j else 0) (fun i hi => by rw [if_pos (by omega), if_pos hi, Nat.add_sub_cancel_left]), ← eR2.out, ← ed2.out] at hcall2
        replace hcall2 := Lib.hid hcall2
        have hadd := fun w => bitsAdd_any d1 d2 c0 w hz ld1 ld2
        replace hadd := Lib.hid hadd
        go_wp2_with fail
        with_reducible refine hcall2.out.mono ?_
        rintro e w3 ⟨rfl, hw3⟩
        have hu3 : Upd0 w w3 := Upd.fresh hu2 hw3.upd htb
        have hc3 := hw3.own.cell (n + j) (by omega)
        have hf3 := hw3.own.free (n + j) (by omega)
        have hset := hw3.own.set (show n + j < cap by omega) (sumW d1 d2 c0)
        have hu4 := hu3.setCell ⟨tb, n + j, none⟩ (.int .u64 (sumW d1 d2 c0 : Nat)) (fun h => by exact absurd h (Nat.not_lt.2 htb))
        have hO4 := hset.congr (g := fun j' => if j' = n + j then sumW d1 d2 c0 else if j ≤ j' ∧ j' < j + n then dg W64 R2 (j' - j) else f j') (fun i hi => by
          by_cases e : i = n + j
          · simp only [if_pos e]
          · simp only [if_neg e]
            by_cases e2 : j ≤ i ∧ i < j + n
            · simp only [if_pos e2]
            · simp only [if_neg e2])
        have hl4 : tb < (w3.setCell ⟨tb, n + j, none⟩ (.int .u64 (sumW d1 d2 c0 : Nat))).heap.size := by
          rw [World.size_setCell]; exact Nat.lt_of_lt_of_le htl (Nat.le_trans hw2.upd.size hw3.upd.size)
        have hcle : carW d1 d2 c0 ≤ 1 := carW_le ld1 ld2 hz
        obtain ⟨sm, Hsm⟩ : ∃ sm, Hid (sm = sumW d1 d2 c0) := ⟨_, rfl⟩
        go_wp2_with fail
        with_reducible refine (hadd.out _).mono ?_
        rintro e w' ⟨rfl, rfl⟩
        clear hset
        go_wp2_with fail
        go_roundw
        case rel => exact ⟨j + 1, carW d1 d2 c0, by omega, by go_num, rfl, hcle, ecar.out, ⟨⟨_, hW2, hO4⟩, hu4, hl4⟩⟩
        case measure => simp [intOf]; omega
      · as_aux_lemma =>
        obtain rfl : j = n := by omega
        have hx1 := hx.keep0 hu
        have hm1 := hm.keep0 hu
        have hsz := hu.size
        have i8 : (j : Int) < (cap : Int) := by omega
        have i9 : (j : Int) ≤ (j : Int) * 2 := by omega
        have i10 : j * 2 - j = j := by omega
        go_upto_region 20 with fail
        go_cut [] (fun wx => MidAt w wx p b j (stN k A B M j % W64 ^ j))
        case first =>
          go_wp2_with fail
          have hcx := hx1.hd
          have hTr : Hid (∀ w5, Upd (fun k => k = p ∨ k = b) wr.drew w5 → Rd .u64 w5 (some ⟨tb, j, none⟩) j (dg W64 (stN k A B M j))) := fun w5 hu5 =>
            Rd.keepS (((hO.drew.rdFrom (show j ≤ cap by omega)).le (show j ≤ cap - j by omega)).congr (fun i hi => hW.dg i hi)) hu5 (by omega)
          have hreset : Calls Try.prog 105 #[.pointer (some ⟨p, 0, none⟩), .int .i64 j] wr.drew fun e w' => e = .returned (.pointer (some ⟨p, 0, none⟩)) ∧ Grown wr.drew p b j 0 w' := reset_any p b c nx X j wr.drew hx1.drew (by omega)
          replace hreset := Lib.hid hreset
          go_region_with ((go_at_call 105; refine hreset.out.mono ?_; rintro e w5 ⟨rfl, b1, c1, hx5, hb5, hu5⟩; have hcell5 := hx5.hd; obtain ⟨w6, hr6, h61, h62, h63, hu6⟩ := run_copy_ints (P := Try.prog) (w := w5) 3 99 99 63 Try.underlying99 (by kernel_rfl) .u64 b1 j c1 _ hx5.own (some ⟨tb, j, none⟩) j (cap - j) _ (hTr.out w5 hu5); replace h61 := Lib.hid h61; replace h62 := Lib.hid h62; replace h63 := Lib.hid h63))
          all_goals (go_wp2_with fail; go_meet; exact mid_of hu hx5 hb5 hu5 h61.out h62.out h63.out hu6)
        case rest =>
          clear i10
          obtain ⟨b1, c1, hx6, hb6, hu6⟩ := hcut
          have hm6 := hm.keep hu6 (by omega) (by omega) (by omega)
          have hms := maybeSub_any p b1 c1 j (stN k A B M j % W64 ^ j) z mp q bm cm M _ hx6 hm6 hz
          rw [show msN j z (stN k A B M j % W64 ^ j) M = mmN j k A B M from by rw [HZ.out]; exact mmN_ms hA hM h0] at hms
          replace hms := Lib.hid hms
          go_wp2_with fail
          with_reducible refine hms.out.mono ?_
          rintro e w7 ⟨rfl, hx7, hu7⟩
          go_wp2_with fail
          go_ret
          exact ⟨rfl, b1, c1, hx7, hb6, hu6.then hu7 (fun i hi e => by rcases hb6 with h | h <;> omega)⟩
theorem mont_any (n p b c nx X pa ba ca A pb bb cb B mp q bm cm M k : Nat) (w : World) (hn : n ≤ 16384) (hn0 : 1 ≤ n) (hx : NatAt w p b c nx X) (ha : NatAt w pa ba ca n A) (hb : NatAt w pb bb cb n B) (hm : MNat w mp q bm cm n M) (hkc : w.cell? ⟨mp, 2, none⟩ = some (.int .u64 k)) (hk : (k * M + 1) % W64 = 0) (h0 : 0 < M)
    (s1 : mp ≠ p) (s2 : mp ≠ b) (s3 : q ≠ p) (s4 : q ≠ b) (s5 : bm ≠ p) (s6 : bm ≠ b) :
    Calls Try.prog 91 #[.pointer (some ⟨p, 0, none⟩), .pointer (some ⟨pa, 0, none⟩), .pointer (some ⟨pb, 0, none⟩), .pointer (some ⟨mp, 0, none⟩)] w fun e w' => e = .returned (.pointer (some ⟨p, 0, none⟩)) ∧ Grown w p b n (mmN n k A B M) w' := by
  by_cases h16 : n = 16
  · subst h16; exact mont16 p b c nx X pa ba ca A pb bb cb B mp q bm cm M k w hx ha hb hm hkc hk h0 s1 s2 s3 s4 s5 s6
  · by_cases h24 : n = 24
    · subst h24; exact mont24 p b c nx X pa ba ca A pb bb cb B mp q bm cm M k w hx ha hb hm hkc hk h0 s1 s2 s3 s4 s5 s6
    · by_cases h32 : n = 32
      · subst h32; exact mont32 p b c nx X pa ba ca A pb bb cb B mp q bm cm M k w hx ha hb hm hkc hk h0 s1 s2 s3 s4 s5 s6
      · exact montDef n p b c nx X pa ba ca A pb bb cb B mp q bm cm M k w hn hn0 h16 h24 h32 hx ha hb hm hkc hk h0 s1 s2 s3 s4 s5 s6
end Go.Proofs.Ytpojonfopoobpaa
