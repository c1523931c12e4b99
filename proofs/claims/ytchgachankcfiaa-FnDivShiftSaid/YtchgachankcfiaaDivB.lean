/-
  Contract of DivShortVarTime.
-/
import Derived.Test.YtchgachankcfiaaDiv
import Derived.Deep.RegionWith
import Derived.Deep.RegionHeld3
namespace Go.Proofs.Ytchgachankcfiaa
open Go.RowKit

theorem zzDiv_any (hi lo y : Nat) (w : World) (hy : y < 18446744073709551616) (hlo : lo < 18446744073709551616) (h : hi < y) (Q R : Nat) (HQ : Hid (Q = (hi * 18446744073709551616 + lo) / y)) (HR : Hid (R = (hi * 18446744073709551616 + lo) % y)) :
    Calls Try.prog 50 #[.int .u64 hi, .int .u64 lo, .int .u64 y] w fun e w' => e = .returned (.tuple #[.int .u64 (Q : Int), .int .u64 (R : Int)]) ∧ ∃ k, w' = w.drewN k := by
  rcases Nat.eq_zero_or_pos hi with h0 | h0
  · subst h0
    refine (zzDiv_zero lo y w hy hlo h).mono ?_
    rw [HQ.out, HR.out, Nat.zero_mul, Nat.zero_add]
    exact fun _ _ h => h
  · exact (zzDiv_pos hi lo y w hy hlo h h0 Q R HQ HR).mono fun e w' ⟨h1, h2⟩ => ⟨h1, 0, by rw [← h2]; rfl⟩

set_option maxRecDepth 100000 in
set_option maxHeartbeats 4000000 in
theorem divShortVT_any (p b c n X y : Nat) (w : World) (hx : NatAt w p b c n X) (hy : y < 18446744073709551616) (hy0 : 0 < y) :
    Calls Try.prog 33 #[.pointer (some ⟨p, 0, none⟩), .int .u64 y] w fun e w' => e = .returned (.int .u64 (X % y : Nat)) ∧ NatAt w' p b c n (X / y) ∧ Upd (fun k => k = b) w w' := by
  have hcell := hx.hd
  have hle := hx.le
  have hsm := hx.sm
  have hy1 : ((y : Int) == 0) = false := by rw [beq_eq_false_iff_ne]; omega
  have HX : Hid (X < W64 ^ n) := hx.lt
  go_enter Try.func33, Try.ntmps33
  go_wp2
  go_loopw [5, 6] (fun t i wr => ∃ k r : Nat, k ≤ n ∧ i = .int .i64 ((k : Int) - 1) ∧ t = .int .u64 r ∧ r < y ∧ Hid (r = X / W64 ^ k % y) ∧ Wrote w wr b n (fun j => if k ≤ j then dg W64 (X / y) j else dg W64 X j)) (fun _ i _ => (intOf i + 1).toNat)
  case atStart => exact ⟨n, 0, Nat.le_refl _, rfl, rfl, hy0, by show _ = _; rw [Nat.div_eq_of_lt HX.out, Nat.zero_mod], .start (hx.own.congr fun j hj => by rw [if_neg (by omega)])⟩
  case round =>
    obtain ⟨k, r, hk, hi, rfl, hrd, HR, hw⟩ := hrel
    by_cases h0 : k = 0
    · subst h0
      subst hi
      have HE : Hid (r = X % y) := by have := HR.out; show r = X % y; simpa using this
      have hX : NatAt wr p b c n (X / y) := hx.wrote (hw.congr fun j hj => by rw [if_pos (Nat.zero_le _)]) (Nat.lt_of_le_of_lt (Nat.div_le_self _ _) hx.lt)
      have hu := hw.upd
      clear hw
      go_wp2
      go_ret
      exact ⟨by rw [HE.out]; rfl, hX, hu⟩
    · obtain ⟨j, rfl⟩ : ∃ j, k = j + 1 := ⟨k - 1, by omega⟩
      replace hi := hi.trans (show Value.int .i64 (((j + 1 : Nat) : Int) - 1) = .int .i64 (j : Int) by congr 1; omega)
      subst hi
      obtain ⟨d, hc1, hf1, hd, HD⟩ := hw.limb (show j < n by omega) (by rw [if_neg (by omega)]; exact limb_lt _ _)
      have HD : Hid (d = dg W64 X j) := by rw [if_neg (by omega)] at HD; exact HD
      have hcell' := hx.wrote_hd hw
      have HS := dg_quot (b := W64) (N := X) (d := y) (j := j) W64_pos hy0
      rw [← HR.out, ← HD.out] at HS
      obtain ⟨Q, HQ⟩ : ∃ Q, Hid (Q = (r * 18446744073709551616 + d) / y) := ⟨_, rfl⟩
      obtain ⟨R, HRR⟩ : ∃ R, Hid (R = (r * 18446744073709551616 + d) % y) := ⟨_, rfl⟩
      have hcall := fun w => zzDiv_any r d y w hy hd hrd Q R HQ HRR
      have hcall := Lib.hid hcall
      have i1 : (j : Int) < (n : Int) := by omega
      have i2 : (0 : Int) ≤ (j : Int) := by omega
      have i3 : ((j : Int)).toNat = j := by omega
      go_upto_block 1 with fail
      go_cut [5] (fun t wx => t = .int .u64 (R : Int) ∧ ∃ q, wx = (wr.setCell ⟨b, j, none⟩ (.int .u64 (Q : Int))).drewN q)
      case first =>
        clear HR hw HD HS
        go_wp2_with fail
        go_region_with ((go_at_call 50; refine (hcall.out _).mono ?_; rintro e w' ⟨rfl, q, rfl⟩))
        all_goals (go_wp2_with fail; go_meet)
        all_goals (exact ⟨rfl, _, rfl⟩)
      case rest =>
        obtain ⟨rfl, q, rfl⟩ := hcut
        have hw2 := (hw.set (show j < n by omega) Q rfl).drewN q
        generalize (wr.setCell ⟨b, j, none⟩ (.int .u64 (Q : Int))).drewN q = wq at *
        go_wp2
        go_roundw
        case rel => exact ⟨j, R, by omega, rfl, rfl, by rw [HRR.out]; exact Nat.mod_lt _ hy0, by show R = X / W64 ^ j % y; rw [HRR.out, HS.2]; rfl, hw2.congr fun i hi => by
          by_cases e : i = j
          · subst e; rw [if_pos rfl, if_pos (Nat.le_refl _), HQ.out, HS.1]; rfl
          · rw [if_neg e]
            by_cases e2 : j + 1 ≤ i
            · rw [if_pos e2, if_pos (by omega)]
            · rw [if_neg e2, if_neg (by omega)]⟩
        case measure => simp [intOf]
end Go.Proofs.Ytchgachankcfiaa
