/-
  Contracts: impl.words, impl.free, BitLenVarTime.
-/
import Derived.Test.YtmbghmjllipbhaaNatA
namespace Go.Proofs.Ytmbghmjllipbhaa
open Go.RowKit

set_option maxRecDepth 100000 in
set_option maxHeartbeats 400000 in
theorem words_any (a : Option Addr) (n c : Nat) (f : Nat → Nat) (w : World) (hn : n ≤ 100000) (hf : ∀ i, i < n → f i < 256) (hs : Sl .u8 w a n c f) :
    Calls Try.prog 123 #[.slice a n c] w fun e w' => ∃ b, e = .returned (.slice (some ⟨b, 0, none⟩) ((nb (be f n) + 7) / 8) ((nb (be f n) + 7) / 8)) ∧ Own .u64 w' b ((nb (be f n) + 7) / 8) (dg W64 (be f n)) ∧ w.heap.size ≤ b ∧ Upd0 w w' := by
  have hm : nb (be f n) ≤ 100000 := by
    have := (nb_le_iff n (be f n)).2 (be_lt hf)
    omega
  have HL : Hid (be f n < 256 ^ nb (be f n)) := lt_pow_nb _
  have hcall := itrimmed_any a n c f w (by omega) hf hs
  clear hs hf
  generalize be f n = N at *
  generalize nb N = m at *
  have hcall := Lib.hid hcall
  go_enter Try.func123, Try.ntmps123
  go_wp2_with fail
  refine hcall.out.mono ?_
  rintro e w1 ⟨a1, c1, rfl, hs1, hu1⟩
  have hmk := make_uint ((m + 7) / 8) ((m + 7) / 8) (Nat.le_refl _) (by omega)
  rw [show (((m + 7) / 8 : Nat) : Int) = ((m : Int) + 7) / 8 from by omega] at hmk
  have HB : Hid (∀ i, i < m → dg 256 N (m - 1 - (m - 1 - i)) = dg 256 N i) := fun i hi => by congr 1; omega
  go_wp2
  go_loopw [14] (fun i wr => ∃ k : Nat, k ≤ m ∧ i = .int .i64 k ∧ Own .u64 wr w1.heap.size ((m + 7) / 8) (dg W64 (N % 256 ^ k)) ∧ Upd0 w1 wr) (fun i _ => m - (intOf i).toNat)
  case atStart => exact ⟨0, Nat.zero_le _, rfl, (Own.made .u64 w1 ((m + 7) / 8) _).congr (fun j hj => by rw [Nat.pow_zero, Nat.mod_one, dg_of_lt (Nat.pow_pos W64_pos)]), (Upd.refl _ _).alloc _⟩
  case round =>
    obtain ⟨k, hk, rfl, hown, hu⟩ := hrel
    clear hmk
    by_cases hlt : k < m
    · obtain ⟨b, off, d, rfl, hcell, hd, HD⟩ := byte_cell (hs1.keep hu).rd (fun i _ => dg_lt (by omega) _ _) (show m - 1 - k < m by omega)
      have HD : Hid (d = dg 256 N k) := by show _ = _; rw [HD.out, HB.out k hlt]
      have hcell2 := hown.cell (k / 8) (by omega)
      have hfree2 := hown.free (k / 8) (by omega)
      obtain ⟨o, HO⟩ : ∃ o, Hid (o = dg W64 (N % 256 ^ k) (k / 8)) := ⟨_, rfl⟩
      have ho2 : o < 18446744073709551616 := by rw [HO.out]; exact limb_lt _ _
      rw [← HO.out] at hcell2
      have i1 : (k : Int) / 8 < ((m : Int) + 7) / 8 := by omega
      have i2 : (0 : Int) ≤ (k : Int) / 8 := by omega
      have i3 : ((k : Int) / 8).toNat = k / 8 := by omega
      have i4 : (0 : Int) ≤ (m : Int) - 1 - (k : Int) := by omega
      have i4' : (k : Int) ≤ (m : Int) - 1 := by omega
      have i5 : (m : Int) - 1 - (k : Int) < (m : Int) := by omega
      have i6 : ((m : Int) - 1 - (k : Int)).toNat = m - 1 - k := by omega
      have e1 := w64 ((k : Int) / 8) (by omega) (by omega)
      have e2 := w64 ((m : Int) - 1) (by omega) (by omega)
      have e3 := w64 ((m : Int) - 1 - (k : Int)) (by omega) (by omega)
      have e4 := w64 (8 * ((k : Int) % 8)) (by omega) (by omega)
      have e5 := IntWalk.u64_in (d : Int) (by omega)
      have e6 := IntWalk.rem_in (k : Int) 8 (by omega)
      have e7 : (8 * ((k : Int) % 8)) = ((8 * (k % 8) : Nat) : Int) := by omega
      clear e7
      go_wp2_with fail
      go_still_tail 20, (by kernel_rfl)
      change wpList _ _ _ _ _ wr.drew
      go_wp2
      go_roundw
      case rel => exact ⟨k + 1, by omega, by go_num, by
          have h := (hown.set (i := k / 8) (by omega) (orW o (shlW d (8 * (k % 8))))).drew
          rw [← bits_or, ← wrap_shl] at h
          refine h.congr fun j hj => ?_
          rw [← word_next N k j, ← HD.out, ← HO.out], (hu.setCell _ _ (fun h => by simp at h)).drew⟩
      case measure => simp [intOf]; omega
    · obtain rfl : k = m := by omega
      go_wp2
      go_ret
      exact ⟨_, rfl, hown.congr (fun j hj => by rw [Nat.mod_eq_of_lt HL.out]), hu1.size, hu1.trans hu⟩

/-- A new number of no modulus is returned. -/
def RetFree (w : World) (N : Nat) (e : Ending) (w' : World) : Prop :=
  ∃ p b c, e = .returned (.pointer (some ⟨p, 0, none⟩)) ∧ NatAt w' p b c ((nb N + 7) / 8) N ∧ w.heap.size ≤ p ∧ w.heap.size ≤ b ∧ Upd0 w w'

theorem lt_limbs (N : Nat) : N < W64 ^ ((nb N + 7) / 8) := by
  refine Nat.lt_of_lt_of_le (lt_pow_nb N) ?_
  rw [powW, pow8]
  exact Nat.pow_le_pow_right (by omega) (by omega)

set_option maxHeartbeats 400000 in
theorem free_any (a : Option Addr) (n c : Nat) (f : Nat → Nat) (w : World) (hn : n ≤ 100000) (hf : ∀ i, i < n → f i < 256) (hs : Sl .u8 w a n c f) :
    Calls Try.prog 80 #[.slice a n c] w (RetFree w (be f n)) := by
  have hm : (nb (be f n) + 7) / 8 ≤ 65536 := by
    have := (nb_le_iff n (be f n)).2 (be_lt hf)
    omega
  go_enter Try.func80, Try.ntmps80
  go_wp2_with fail
  refine (newNat_any w).mono ?_
  rintro e w1 ⟨rfl, hx1, hu1, hz1⟩
  go_wp2_with fail
  refine (words_any a n c f w1 hn hf (hs.keep hu1)).mono ?_
  rintro e w2 ⟨b2, rfl, hown2, hb2, hu2⟩
  have hx2 := hx1.keep0 hu2
  go_wp2_with fail
  refine (setBits_any _ _ _ _ _ _ _ _ _ w2 hx2 hm hown2.rd (fun i _ => dg_lt W64_pos _ _) (fun x off h => by cases h; omega)).mono ?_
  rintro e w3 ⟨rfl, b3, c3, hx3, hb3, hu3⟩
  go_wp2_with fail
  go_ret
  rw [ofD_dg_of_lt (lt_limbs _)] at hx3
  have hz2 := hu2.size
  exact ⟨_, b3, c3, rfl, hx3, by omega, by rcases hb3 with h | h <;> omega, (hu1.trans hu2).then hu3 (fun i hi h => by omega)⟩

/-- A limb that is read, behind a name. -/
theorem NatAt.limb {w : World} {p b c n X j : Nat} (h : NatAt w p b c n X) (hj : j < n) :
    ∃ d, w.cell? ⟨b, j, none⟩ = some (.int .u64 (d : Nat)) ∧ d < 18446744073709551616 ∧ Hid (d = dg W64 X j) :=
  ⟨_, h.own.cell j hj, limb_lt _ _, rfl⟩

set_option maxHeartbeats 400000 in
theorem bitLen_any (n : Nat) (w : World) (hn : n < 18446744073709551616) :
    Calls Try.prog 135 #[.int .u64 n] w fun e w' => e = .returned (.int .i64 (blen n)) ∧ w = w' := by
  have hb : blen n ≤ 64 := (blen_le_iff 64 n).2 hn
  go_enter Try.func135, Try.ntmps135
  go_wp2
  go_loop [0, 3] (fun x i => ∃ m k : Nat, m ≤ n ∧ x = .int .u64 m ∧ i = .int .i64 k ∧ Hid (k + blen m = blen n)) (fun x _ => (intOf x).toNat)
  case atStart => exact ⟨n, 0, Nat.le_refl _, rfl, rfl, by show 0 + _ = _; omega⟩
  case round =>
    obtain ⟨m, k, hm, rfl, rfl, HK⟩ := hrel
    have hk : k ≤ 64 := by have := HK.out; omega
    by_cases h0 : m = 0
    · subst h0
      go_wp2
      go_ret
      exact ⟨ret_nat (by have := HK.out; rw [blen_zero] at this; omega), rfl⟩
    · have h0' : ((m : Int) != 0) = true := by rw [bne_iff_ne]; omega
      have HK2 : Hid (k + 1 + blen (m / 2) = blen n) := by show _ = _; rw [← HK.out, blen_half m h0]; omega
      clear hb
      go_wp2
      go_round
      case rel => exact ⟨m / 2, k + 1, by omega, by go_num, by go_num, HK2⟩
      case measure => simp [intOf]; omega

set_option maxRecDepth 100000 in
set_option maxHeartbeats 400000 in
theorem bitLenVT_any (p b c n X : Nat) (w : World) (hx : NatAt w p b c n X) :
    Calls Try.prog 98 #[.pointer (some ⟨p, 0, none⟩)] w fun e w' => e = .returned (.int .i64 (blen X)) ∧ w = w' := by
  have hcell := hx.hd
  have hle := hx.le
  have hsm := hx.sm
  have HX : Hid (X < W64 ^ n) := hx.lt
  go_enter Try.func98, Try.ntmps98
  go_wp2
  go_loop [5] (fun i => ∃ k : Nat, k ≤ n ∧ i = .int .i64 ((k : Int) - 1) ∧ Hid (X < W64 ^ k)) (fun i => (intOf i + 1).toNat)
  case atStart => exact ⟨n, Nat.le_refl _, rfl, HX⟩
  case round =>
    obtain ⟨k, hk, rfl, HK⟩ := hrel
    by_cases h0 : k = 0
    · subst h0
      have hX0 : Hid (X = 0) := by have := HK.out; show X = 0; simpa using this
      go_wp2
      go_ret
      exact ⟨ret_int (by rw [hX0.out]; rfl), rfl⟩
    · obtain ⟨j, rfl⟩ : ∃ j, k = j + 1 := ⟨k - 1, by omega⟩
      obtain ⟨d, hd, hdl, HD⟩ := hx.limb (show j < n by omega)
      by_cases hz : d = 0
      · subst hz
        go_wp2
        go_round
        case rel => exact ⟨j, by omega, rfl, lt_of_no_topW HK.out HD.out.symm⟩
        case measure => simp [intOf]
      · have hz' : ((d : Int) != 0) = true := by rw [bne_iff_ne]; omega
        have HB : Hid (blen X = 64 * j + blen d) := by show _ = _; rw [HD.out]; exact blen_topW HK.out (by rw [← HD.out]; exact hz)
        have hb64 : blen d ≤ 64 := (blen_le_iff 64 d).2 hdl
        go_wp2_with (go_at_call 135; refine (bitLen_any _ _ hdl).mono ?_; rintro e w' ⟨rfl, rfl⟩)
        go_ret
        exact ⟨ret_int (by rw [HB.out]; go_num), rfl⟩
end Go.Proofs.Ytmbghmjllipbhaa
