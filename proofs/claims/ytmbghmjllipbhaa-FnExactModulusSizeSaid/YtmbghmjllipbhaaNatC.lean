/-
  Contracts: rshift1, ShiftRightByOne, Bits, told.
-/
import Derived.Test.YtmbghmjllipbhaaNatB
namespace Go.Proofs.Ytmbghmjllipbhaa
open Go.RowKit

set_option maxRecDepth 100000 in
set_option maxHeartbeats 1000000 in
theorem rshift1_any (p b c n X cy : Nat) (w : World) (hx : NatAt w p b c n X) (hcy : cy ≤ 1) :
    Calls Try.prog 149 #[.pointer (some ⟨p, 0, none⟩), .int .u64 cy] w fun e w' => e = .returned (.tuple #[]) ∧ NatAt w' p b c n ((X + cy * W64 ^ n) / 2) ∧ Upd (fun k => k = b) w w' := by
  have hcell := hx.hd
  have hle := hx.le
  have hsm := hx.sm
  go_enter Try.func149, Try.ntmps149
  go_wp2
  go_loopw [19] (fun i wr => ∃ k : Nat, k ≤ n ∧ i = .int .i64 k ∧ Wrote w wr b n (fun j => if j < k then dg W64 ((X + cy * W64 ^ n) / 2) j else dg W64 X j)) (fun i _ => n - (intOf i).toNat)
  case atStart => exact ⟨0, Nat.zero_le _, rfl, .start (hx.own.congr (fun j _ => by rw [if_neg (Nat.not_lt_zero j)]))⟩
  case round =>
    obtain ⟨k, hk, rfl, hw⟩ := hrel
    by_cases hlt : k < n
    · obtain ⟨d, hc1, hf1, hd, HD⟩ := hw.limb hlt (by rw [if_neg (Nat.lt_irrefl k)]; exact limb_lt _ _)
      have HD : Hid (d = dg W64 X k) := by rw [if_neg (Nat.lt_irrefl k)] at HD; exact HD
      have hw1 := hw.set hlt (d / 2) (z := (d : Int) / 2) (by omega)
      have hf2 := hw1.own.free k hlt
      have hc3 := hw1.own.cell k hlt
      rw [if_pos rfl, show ((d / 2 : Nat) : Int) = (d : Int) / 2 from by omega] at hc3
      by_cases hlt2 : k + 1 < n
      · obtain ⟨d', hc2, _, hd', HD'⟩ := hw1.limb hlt2 (by rw [if_neg (by omega), if_neg (by omega)]; exact limb_lt _ _)
        have HD' : Hid (d' = dg W64 X (k + 1)) := by rw [if_neg (by omega), if_neg (by omega)] at HD'; exact HD'
        have HV : Hid (d / 2 + d' % 2 * 9223372036854775808 = dg W64 ((X + cy * W64 ^ n) / 2) k) := by
          show _ = _
          rw [dg_half, dg_carry cy hx.lt hcy, dg_carry cy hx.lt hcy, if_pos hlt, if_pos hlt2, HD.out, HD'.out]
        have i1 : (k : Int) < (n : Int) := by omega
        have i2 : (0 : Int) ≤ (k : Int) := by omega
        have i3 : ((k : Int)).toNat = k := by omega
        have i4 : (k : Int) + 1 < (n : Int) := by omega
        have i5 : (0 : Int) ≤ (k : Int) + 1 := by omega
        have i6 : ((k : Int) + 1).toNat = k + 1 := by omega
        have e1 := w64 ((k : Int) + 1) (by omega) (by omega)
        go_wp2_with fail
        generalize wr.setCell ⟨b, k, none⟩ (.int .u64 ((d : Int) / 2)) = wq at *
        go_still_tail 12, (by kernel_rfl)
        change wpList _ _ _ _ _ wq.drew
        go_wp2
        go_roundw
        case rel => exact ⟨k + 1, by omega, by go_num, by
          refine (hw1.drew.set hlt _ (or_half d d' hd)).congr fun j hj => ?_
          rw [HV.out]
          by_cases e : j = k
          · subst e; rw [if_pos rfl, if_pos (by omega)]
          · rw [if_neg e, if_neg e]
            by_cases e2 : j < k
            · rw [if_pos e2, if_pos (by omega)]
            · rw [if_neg e2, if_neg (by omega)]⟩
        case measure => simp [intOf]; omega
      · have HV : Hid (d / 2 + cy % 2 * 9223372036854775808 = dg W64 ((X + cy * W64 ^ n) / 2) k) := by
          show _ = _
          rw [dg_half, dg_carry cy hx.lt hcy, dg_carry cy hx.lt hcy, if_pos hlt, if_neg hlt2, if_pos (by omega), HD.out]
        go_wp2
        go_roundw
        case rel => exact ⟨k + 1, by omega, by go_num, by
          have hoh := or_half d cy hd
          rw [IntWalk.u64_in ((cy : Int) * 9223372036854775808) (by omega)] at hoh
          refine (hw1.set hlt _ hoh).congr fun j hj => ?_
          rw [HV.out]
          by_cases e : j = k
          · subst e; rw [if_pos rfl, if_pos (by omega)]
          · rw [if_neg e, if_neg e]
            by_cases e2 : j < k
            · rw [if_pos e2, if_pos (by omega)]
            · rw [if_neg e2, if_neg (by omega)]⟩
        case measure => simp [intOf]; omega
    · obtain rfl : k = n := by omega
      have hY : (X + cy * W64 ^ k) / 2 < W64 ^ k := by
        have h1 : cy * W64 ^ k ≤ 1 * W64 ^ k := Nat.mul_le_mul_right _ hcy
        have := hx.lt
        omega
      have hX : NatAt wr p b c k ((X + cy * W64 ^ k) / 2) := hx.wrote (hw.congr fun j hj => by rw [if_pos hj]) hY
      have hu := hw.upd
      clear hw hY
      go_wp2
      go_end0
      exact ⟨rfl, hX, hu⟩


set_option maxHeartbeats 400000 in
theorem natBits_any (p b c n X : Nat) (w : World) (hx : NatAt w p b c n X) :
    Calls Try.prog 124 #[.pointer (some ⟨p, 0, none⟩)] w fun e w' => e = .returned (.slice (some ⟨b, 0, none⟩) n c) ∧ w = w' := by
  have hcell := hx.hd
  go_enter Try.func124, Try.ntmps124
  go_wp2
  go_ret
  exact ⟨rfl, rfl⟩

theorem byte_of_limb (X i j : Nat) (hj : j < 8) : dg W64 X i / 2 ^ (8 * j) % 256 = dg 256 X (8 * i + j) := by
  unfold dg
  rw [← pow8, Nat.pow_add, Nat.pow_mul, ← Nat.div_div_eq_div_mul]
  rw [show (256 : Nat) ^ 8 = W64 from rfl]
  generalize X / W64 ^ i = z
  have : W64 = 256 ^ j * 256 ^ (8 - j) := by
    rw [← Nat.pow_add, show j + (8 - j) = 8 by omega]; rfl
  rw [this, Nat.mod_mul_right_div_self]
  obtain ⟨t, ht⟩ : ∃ t, 8 - j = t + 1 := ⟨7 - j, by omega⟩
  rw [ht, Nat.pow_succ, Nat.mul_comm (256 ^ t) 256, Nat.mod_mul_right_mod]

set_option maxRecDepth 100000 in
set_option maxHeartbeats 1000000 in
theorem told_any (p b c n X : Nat) (w : World) (hx : NatAt w p b c n X) :
    Calls Try.prog 81 #[.pointer (some ⟨p, 0, none⟩)] w (RetBytes w (nb X) (fun i => dg 256 X (nb X - 1 - i))) := by
  have hle := hx.le
  have hsm := hx.sm
  go_enter Try.func81, Try.ntmps81
  go_wp2_with fail
  refine (natBits_any p b c n X w hx).mono ?_
  rintro e w1 ⟨rfl, rfl⟩
  go_wp2_with fail
  go_loopw [4, 5] (fun v i wr => ∃ (k : Nat) (a' : Option Addr) (c' : Nat), k ≤ n ∧ i = .int .i64 ((k : Int) - 1) ∧ v = .slice a' (8 * (n - k)) c' ∧ Grow .u8 5 wr w.heap.size a' c' (8 * (n - k)) (fun t => dg 256 X (8 * n - 1 - t)) ∧ Upd0 w wr) (fun _ i _ => (intOf i + 1).toNat)
  case atStart => exact ⟨n, none, 0, Nat.le_refl _, rfl, by simp, by simp only [Nat.sub_self, Nat.mul_zero]; exact Grow.nil _ _ _ _ _, .refl _ _⟩
  case round =>
    obtain ⟨k, a', c', hk, hi, rfl, hg, hu⟩ := hrel
    by_cases h0 : k = 0
    · subst h0
      subst hi
      have HS : Sl .u8 wr a' (8 * n) c' (fun t => dg 256 X (8 * n - 1 - t)) := hg.sl
      have hcall := itrimmed_any a' (8 * n) c' _ wr (by omega) (fun i _ => dg_lt (by omega) _ _) HS
      have HX : X < 256 ^ (8 * n) := by
        have := hx.lt
        rw [powW] at this
        rw [pow8, ← Nat.mul_assoc]; exact this
      rw [be_of_dg HX] at hcall
      have hcall := Lib.hid hcall
      rw [Nat.sub_zero]
      go_wp2_with fail
      refine hcall.out.mono ?_
      rintro e w2 ⟨a2, c2, rfl, hs2, hu2⟩
      go_wp2_with fail
      go_ret
      exact ⟨a2, c2, rfl, hs2, hu.trans hu2⟩
    · obtain ⟨j, rfl⟩ : ∃ j, k = j + 1 := ⟨k - 1, by omega⟩
      replace hi := hi.trans (show Value.int .i64 (((j + 1 : Nat) : Int) - 1) = .int .i64 (j : Int) by congr 1; omega)
      subst hi
      obtain ⟨C, hC⟩ : ∃ C, C = 8 * (n - (j + 1)) := ⟨_, rfl⟩
      rw [← hC] at hg ⊢
      have hC' : C + 8 * (j + 1) = 8 * n := by omega
      have HC := Lib.hid hC
      clear hC
      obtain ⟨wo, rfl⟩ : ∃ wo : World, wo = wr := ⟨_, rfl⟩
      go_wp2_with fail
      go_loopw [4, 6] (fun v i wr => ∃ (r : Nat) (a' : Option Addr) (c' : Nat), r ≤ 8 ∧ i = .int .i64 (8 * (r : Int) - 8) ∧ v = .slice a' (C + (8 - r)) c' ∧ Grow .u8 5 wr w.heap.size a' c' (C + (8 - r)) (fun t => dg 256 X (8 * n - 1 - t)) ∧ Upd0 w wr) (fun _ i _ => (intOf i + 8).toNat)
      case atStart => exact ⟨8, a', c', Nat.le_refl _, rfl, rfl, hg, hu⟩
      case round =>
        clear hg hu
        obtain ⟨r, a', c', hr, hi, rfl, hg, hu⟩ := hrel
        by_cases h0 : r = 0
        · subst h0
          subst hi
          go_wp2_with fail
          go_roundw
          case rel => exact ⟨j, a', c', by omega, rfl, by congr 1; omega, by rw [show 8 * (n - j) = C + (8 - 0) by omega]; exact hg, hu⟩
          case measure => simp [intOf]
        · obtain ⟨s, rfl⟩ : ∃ s, r = s + 1 := ⟨r - 1, by omega⟩
          replace hi := hi.trans (show Value.int .i64 (8 * ((s + 1 : Nat) : Int) - 8) = .int .i64 (8 * (s : Int)) by congr 1; omega)
          subst hi
          obtain ⟨d, hd1, hd, HD⟩ := (hx.keep0 hu).limb (show j < n by omega)
          rw [show 8 - (s + 1) = 7 - s from by omega] at hg ⊢
          have hz := hu.size
          go_wp2_with (at_builtin; refine wpList_append_ints rfl (.tmp 20) (.tmp 28) 22 rfl w.heap.size 5 .u8 1 Try.underlying22 info_u8 a' c' (C + (7 - s)) _ rfl (by exact hg.keep0 ((Upd.refl _ _).alloc _)) ⟨wr.heap.size, 0, none⟩ 1 1 (fun _ => d / 2 ^ (8 * s) % 256) rfl (by exact Rd.one (by simp)) (by omega) (by omega) (by simp; omega) ?_; intro a2 c2 w2 hg2 hu2)
          go_roundw
          case rel => exact ⟨s, a2, c2, by omega, rfl, by congr 1; omega, by
            rw [show C + (8 - s) = C + (7 - s) + 1 by omega]
            refine hg2.congr fun t ht => ?_
            by_cases e : t < C + (7 - s)
            · rw [if_pos e]
            · rw [if_neg e, HD.out, byte_of_limb X j s (by omega)]
              congr 1; omega, hu.then (T := fun b => w.heap.size ≤ b) (((Upd.refl _ _).alloc _).then hu2 (fun i _ hi => (hg.block i hi).1)) (fun i h1 h2 => by omega)⟩
          case measure => simp [intOf]; omega
end Go.Proofs.Ytmbghmjllipbhaa
