/-
  Contract of ShiftRightVarTime.
-/
import Derived.Test.YtmbghmjllipbhaaNatC
namespace Go.Proofs.Ytmbghmjllipbhaa
open Go.RowKit

set_option maxRecDepth 100000 in
set_option maxHeartbeats 1000000 in
theorem shiftRightVT_big (p b c n X N : Nat) (w : World) (hx : NatAt w p b c n X) (hN : N < 18446744073709551616) (hL : n ≤ N / 64) :
    Calls Try.prog 86 #[.pointer (some ⟨p, 0, none⟩), .int .u64 N] w fun e w' => e = .returned (.pointer (some ⟨p, 0, none⟩)) ∧ NatAt w' p b c n (X / 2 ^ N) ∧ Upd (fun k => k = b) w w' := by
  have hcell := hx.hd
  have hle := hx.le
  have hsm := hx.sm
  have HX : Hid (X / 2 ^ N = 0) := by
    show _ = _
    refine Nat.div_eq_of_lt (Nat.lt_of_lt_of_le hx.lt ?_)
    rw [powW]
    exact Nat.pow_le_pow_right (by omega) (by omega)
  obtain ⟨s, hs⟩ : ∃ s, s = N % 64 := ⟨_, rfl⟩
  obtain ⟨L, hL2⟩ : ∃ L, L = N / 64 := ⟨_, rfl⟩
  have e1 : (N : Int) % 64 = (s : Int) := by omega
  have e2 : (N : Int) / 64 = (L : Int) := by omega
  have b1 : s < 64 := by omega
  have b2 : n ≤ L := by omega
  have b3 : L ≤ 288230376151711744 := by omega
  clear hs hL2 hL
  go_enter Try.func86, Try.ntmps86
  go_wp2
  go_loopw [36] (fun i wr => ∃ k : Nat, k ≤ n ∧ i = .int .i64 k ∧ Wrote w wr b n (fun j => if j < k then 0 else dg W64 X j)) (fun i _ => n - (intOf i).toNat)
  case atStart => exact ⟨0, Nat.zero_le _, rfl, .start (hx.own.congr (fun j _ => by rw [if_neg (Nat.not_lt_zero j)]))⟩
  case round =>
    obtain ⟨k, hk, rfl, hw⟩ := hrel
    clear e1 e2
    by_cases hlt : k < n
    · have hc1 := hw.own.cell k hlt
      have hf1 := hw.own.free k hlt
      rw [if_neg (Nat.lt_irrefl k)] at hc1
      go_wp2
      go_roundw
      case rel => exact ⟨k + 1, by omega, by go_num, (hw.set hlt 0 (z := 0) (by omega)).congr fun j hj => by
        by_cases e : j = k
        · subst e; rw [if_pos rfl, if_pos (by omega)]
        · rw [if_neg e]
          by_cases e2 : j < k
          · rw [if_pos e2, if_pos (by omega)]
          · rw [if_neg e2, if_neg (by omega)]⟩
      case measure => simp [intOf]; omega
    · obtain rfl : k = n := by omega
      have hX : NatAt wr p b c k (X / 2 ^ N) := hx.wrote (hw.congr fun j hj => by rw [if_pos hj, HX.out, dg_of_lt (Nat.pow_pos W64_pos)]) (by rw [HX.out]; exact Nat.pow_pos W64_pos)
      have hu := hw.upd
      clear hw
      go_wp2
      go_ret
      exact ⟨rfl, hX, hu⟩

set_option maxRecDepth 100000 in
set_option maxHeartbeats 1000000 in
theorem shiftRightVT_low (p b c n X N : Nat) (w : World) (hx : NatAt w p b c n X) (hN : N < 18446744073709551616) (hL : N / 64 < n) :
    Calls Try.prog 86 #[.pointer (some ⟨p, 0, none⟩), .int .u64 N] w fun e w' => e = .returned (.pointer (some ⟨p, 0, none⟩)) ∧ NatAt w' p b c n (X / 2 ^ N) ∧ Upd (fun k => k = b) w w' := by
  have hcell := hx.hd
  have hle := hx.le
  have hsm := hx.sm
  obtain ⟨s, hs⟩ : ∃ s, s = N % 64 := ⟨_, rfl⟩
  obtain ⟨L, hL2⟩ : ∃ L, L = N / 64 := ⟨_, rfl⟩
  have HN : Hid (N = 64 * L + s) := by show _ = _; omega
  have e1 : (N : Int) % 64 = (s : Int) := by omega
  have e2 : (N : Int) / 64 = (L : Int) := by omega
  have b1 : s < 64 := by omega
  have b2 : L < n := by omega
  have b3 : ¬ c = L := by omega
  clear hs hL2 hL
  go_enter Try.func86, Try.ntmps86
  go_wp2
  go_loopw [36] (fun i wr => ∃ k : Nat, k ≤ n ∧ i = .int .i64 k ∧ Wrote w wr b n (fun j => if j < k then dg W64 (X / 2 ^ N) j else dg W64 X j)) (fun i _ => n - (intOf i).toNat)
  case atStart => exact ⟨0, Nat.zero_le _, rfl, .start (hx.own.congr (fun j _ => by rw [if_neg (Nat.not_lt_zero j)]))⟩
  case round =>
    obtain ⟨k, hk, rfl, hw⟩ := hrel
    clear e1 e2
    by_cases hlt : k < n
    · obtain ⟨d0, hc1, hf1, _, _⟩ := hw.limb hlt (by rw [if_neg (Nat.lt_irrefl k)]; exact limb_lt _ _)
      by_cases h1 : k + L < n
      · obtain ⟨d, hc2, _, hd, HD⟩ := hw.limb h1 (by rw [if_neg (by omega)]; exact limb_lt _ _)
        have HD : Hid (d = dg W64 X (k + L)) := by rw [if_neg (by omega)] at HD; exact HD
        rw [Nat.add_comm k L] at hc2
        have hz1 : ((d : Int) / 2 ^ s) = ((d / 2 ^ s : Nat) : Int) := by simp
        have hw1 := hw.set hlt (d / 2 ^ s) hz1
        have HZ := Lib.hid hz1
        clear hz1
        by_cases h2 : k + 1 + L < n
        · obtain ⟨d', hc3, _, hd', HD'⟩ := hw1.limb h2 (by rw [if_neg (by omega), if_neg (by omega)]; exact limb_lt _ _)
          have HD' : Hid (d' = dg W64 X (k + 1 + L)) := by rw [if_neg (by omega), if_neg (by omega)] at HD'; exact HD'
          rw [Nat.add_comm (k + 1) L] at hc3
          have HV : Hid (d / 2 ^ s + d' % 2 ^ s * 2 ^ (64 - s) = dg W64 (X / 2 ^ N) k) := by
            show _ = _
            rw [HN.out, dg_shift X L s k b1, HD.out, HD'.out, Nat.add_comm k L, Nat.add_comm (k + 1) L]
          have hc4 := hw1.own.cell k hlt
          have hf4 := hw1.own.free k hlt
          rw [if_pos rfl, ← HZ.out] at hc4
          have i1 : (k : Int) < (n : Int) := by omega
          have i2 : (0 : Int) ≤ (k : Int) := by omega
          have i3 : ((k : Int)).toNat = k := by omega
          have i4 : (k : Int) + 1 < ((n - L : Nat) : Int) := by omega
          have i4' : k + 1 < n - L := by omega
          have i5 : (0 : Int) ≤ (k : Int) + 1 := by omega
          have i6 : ((k : Int) + 1).toNat = k + 1 := by omega
          have i7 : (0 : Int) ≤ 64 - (s : Int) := by omega
          have i7' : (s : Int) ≤ 64 := by omega
          have i8 : (64 - (s : Int)).toNat = 64 - s := by omega
          have e3 := w64 ((k : Int) + 1) (by omega) (by omega)
          have e4 := w64 (64 - (s : Int)) (by omega) (by omega)
          go_wp2_with fail
          generalize wr.setCell ⟨b, k, none⟩ (.int .u64 ((d : Int) / 2 ^ s)) = wq at *
          go_still_tail 14, (by kernel_rfl)
          change wpList _ _ _ _ _ wq.drew
          go_wp2
          go_roundw
          case rel => exact ⟨k + 1, by omega, by go_num, by
            refine (hw1.drew.set hlt _ (or_shr d d' s hd b1)).congr fun j hj => ?_
            rw [HV.out]
            by_cases e : j = k
            · subst e; rw [if_pos rfl, if_pos (by omega)]
            · rw [if_neg e, if_neg e]
              by_cases e2 : j < k
              · rw [if_pos e2, if_pos (by omega)]
              · rw [if_neg e2, if_neg (by omega)]⟩
          case measure => simp [intOf]; omega
        · have HV : Hid (d / 2 ^ s = dg W64 (X / 2 ^ N) k) := by
            show _ = _
            rw [HN.out, dg_shift X L s k b1, HD.out, Nat.add_comm k L, dg_of_lt' (i := L + (k + 1)) W64_pos hx.lt (by omega), Nat.zero_mod, Nat.zero_mul, Nat.add_zero]
          go_wp2
          go_roundw
          case rel => exact ⟨k + 1, by omega, by go_num, by
            refine hw1.congr fun j hj => ?_
            rw [HV.out]
            by_cases e : j = k
            · subst e; rw [if_pos rfl, if_pos (by omega)]
            · rw [if_neg e]
              by_cases e2 : j < k
              · rw [if_pos e2, if_pos (by omega)]
              · rw [if_neg e2, if_neg (by omega)]⟩
          case measure => simp [intOf]; omega
      · have HV : Hid (0 = dg W64 (X / 2 ^ N) k) := by
          show _ = _
          rw [HN.out, dg_shift X L s k b1, dg_of_lt' W64_pos hx.lt (by omega), dg_of_lt' W64_pos hx.lt (by omega), Nat.zero_mod, Nat.zero_mul, Nat.zero_div]
        go_wp2
        go_roundw
        case rel => exact ⟨k + 1, by omega, by go_num, by
          refine (hw.set hlt 0 (z := 0) (by omega)).congr fun j hj => ?_
          rw [HV.out]
          by_cases e : j = k
          · subst e; rw [if_pos rfl, if_pos (by omega)]
          · rw [if_neg e]
            by_cases e2 : j < k
            · rw [if_pos e2, if_pos (by omega)]
            · rw [if_neg e2, if_neg (by omega)]⟩
        case measure => simp [intOf]; omega
    · obtain rfl : k = n := by omega
      have hX : NatAt wr p b c k (X / 2 ^ N) := hx.wrote (hw.congr fun j hj => by rw [if_pos hj]) (Nat.lt_of_le_of_lt (Nat.div_le_self _ _) hx.lt)
      have hu := hw.upd
      clear hw
      go_wp2
      go_ret
      exact ⟨rfl, hX, hu⟩

theorem shiftRightVT_any (p b c n X N : Nat) (w : World) (hx : NatAt w p b c n X) (hN : N < 18446744073709551616) :
    Calls Try.prog 86 #[.pointer (some ⟨p, 0, none⟩), .int .u64 N] w fun e w' => e = .returned (.pointer (some ⟨p, 0, none⟩)) ∧ NatAt w' p b c n (X / 2 ^ N) ∧ Upd (fun k => k = b) w w' := by
  rcases Nat.lt_or_ge (N / 64) n with h | h
  · exact shiftRightVT_low p b c n X N w hx hN h
  · exact shiftRightVT_big p b c n X N w hx hN h
end Go.Proofs.Ytmbghmjllipbhaa
