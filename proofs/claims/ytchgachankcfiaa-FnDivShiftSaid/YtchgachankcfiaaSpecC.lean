/-
  Contracts of the reference's divided and ShiftRight.
-/
import Derived.Test.YtchgachankcfiaaSpecB
namespace Go.Proofs.Ytchgachankcfiaa
open Go.RowKit

/-- A quotient and what is left, a number below the base of digits. -/
def RetDiv (w : World) (Q R : Nat) (e : Ending) (w' : World) : Prop :=
  ∃ a c, e = .returned (.tuple #[.slice a (nd Q) c, .int .i64 R]) ∧ Sl .i64 w' a (nd Q) c (dg 65536 Q) ∧ Upd0 w w'

set_option maxHeartbeats 400000 in
theorem divided_any (a : Option Addr) (c N d : Nat) (w : World) (hn : nd N ≤ 1000000) (hd0 : 0 < d) (hd : d < 65536) (hr : Rd .i64 w a (nd N) (dg 65536 N)) :
    Calls Try.prog 30 #[.slice a (nd N) c, .int .i64 d] w (RetDiv w (N / d) (N % d)) := by
  have HL : Hid (N < 65536 ^ nd N) := lt_pow_nd N
  have HQ : Hid (N / d < 65536 ^ nd N) := Nat.lt_of_le_of_lt (Nat.div_le_self _ _) (lt_pow_nd N)
  generalize nd N = m at *
  have hmk := make_num m (by omega)
  go_enter Try.func30, Try.ntmps30
  go_wp2
  go_loopw [7, 8] (fun t i wr => ∃ k r : Nat, k ≤ m ∧ i = .int .i64 ((k : Int) - 1) ∧ t = .int .i64 r ∧ r < d ∧ Hid (r = N / 65536 ^ k % d) ∧ Own .i64 wr w.heap.size m (fun j => if k ≤ j then dg 65536 (N / d) j else 0) ∧ Upd0 w wr) (fun _ i _ => (intOf i + 1).toNat)
  case atStart => exact ⟨m, 0, Nat.le_refl _, rfl, rfl, hd0, by show _ = _; rw [Nat.div_eq_of_lt HL.out, Nat.zero_mod], (Own.made .i64 w m _).congr (fun j hj => by rw [if_neg (by omega)]), (Upd.refl _ _).alloc _⟩
  case round =>
    obtain ⟨k, r, hk, rfl, rfl, hrd, HR, hown, hu⟩ := hrel
    clear hmk
    by_cases h0 : k = 0
    · subst h0
      have HR2 : Rd .i64 wr (some ⟨w.heap.size, 0, none⟩) m (dg 65536 (N / d)) := hown.rd.congr (fun j hj => by rw [if_pos (Nat.zero_le _)])
      have HR3 : Hid (r = N % d) := by have := HR.out; show r = N % d; simpa using this
      clear hown
      go_wp2_with fail
      refine (trimmed_any _ _ _ _ _ (by omega) (Nat.le_refl _) HQ.out HR2).mono ?_
      rintro e w' ⟨rfl, rfl⟩
      go_wp2_with fail
      go_ret2
      exact ⟨_, _, by rw [HR3.out]; rfl, ⟨(nd_le_iff _ _).2 HQ.out, HR2.le ((nd_le_iff _ _).2 HQ.out), fun e => by cases e⟩, hu⟩
    · obtain ⟨j, rfl⟩ : ∃ j, k = j + 1 := ⟨k - 1, by omega⟩
      obtain ⟨b, off, g, rfl, hcell, hg, HG⟩ := num_cell (hr.keep hu) (show j < m by omega)
      have hcell2 := hown.cell j (by omega)
      have hfree2 := hown.free j (by omega)
      have HS := dg_quot (b := 65536) (N := N) (d := d) (j := j) (by omega) hd0
      rw [← HR.out, ← HG.out] at HS
      have HS := Lib.hid HS
      have hb1 : r * 65536 + g < d * 65536 := by
        have : (r + 1) * 65536 ≤ d * 65536 := Nat.mul_le_mul_right _ hrd
        omega
      have hdz : ¬ (d : Int) = 0 := by omega
      go_wp2
      go_roundw
      case rel => exact ⟨j, (r * 65536 + g) % d, by omega, rfl, by go_num, Nat.mod_lt _ hd0, HS.out.2.symm, by
        have h := hown.set (i := j) (by omega) ((r * 65536 + g) / d)
        rw [show (((r * 65536 + g) / d : Nat) : Int) = ((r : Int) * 65536 + (g : Int)) / (d : Int) from by simp] at h
        refine h.congr fun i hi => ?_
        by_cases e : i = j
        · subst e; rw [if_pos rfl, if_pos (Nat.le_refl _), HS.out.1]
        · rw [if_neg e]
          by_cases e2 : j + 1 ≤ i
          · rw [if_pos e2, if_pos (by omega)]
          · rw [if_neg e2, if_neg (by omega)], hu.setCell _ _ (fun h => by simp at h)⟩
      case measure => simp [intOf]

set_option maxHeartbeats 400000 in
theorem sShiftRight_any (a : Option Addr) (n c k : Nat) (f : Nat → Nat) (w : World) (hn : n ≤ 100000) (hk : k ≤ 1000000) (hf : ∀ i, i < n → f i < 256) (hs : Sl .u8 w a n c f) :
    Calls Try.prog 16 #[.slice a n c, .int .i64 k] w (RetBytes w (nb (be f n / 2 ^ k)) (fun i => dg 256 (be f n / 2 ^ k) (nb (be f n / 2 ^ k) - 1 - i))) := by
  have hN : blen (be f n) ≤ 8 * n := by rw [blen_le_iff, ← pow8]; exact be_lt hf
  have hcall := read_any a n c f w (by omega) hf hs.rd
  generalize be f n = N at *
  have hcall := Lib.hid hcall
  clear hs hf
  have hnd : nd N ≤ 1000000 := by unfold nd; omega
  go_enter Try.func16, Try.ntmps16
  go_wp2_with fail
  refine hcall.out.mono ?_
  rintro e w1 ⟨a1, c1, rfl, hs1, hu1⟩
  go_wp2_with fail
  go_loopw [5, 6] (fun v i wr => ∃ (M j : Nat) (a' : Option Addr) (c' : Nat), v = .slice a' (nd M) c' ∧ i = .int .i64 j ∧ j ≤ k ∧ M ≤ N ∧ Hid (M = N / 2 ^ j) ∧ Sl .i64 wr a' (nd M) c' (dg 65536 M) ∧ Upd0 w1 wr) (fun _ i _ => k - (intOf i).toNat)
  case atStart => exact ⟨N, 0, a1, c1, rfl, rfl, Nat.zero_le _, Nat.le_refl _, by show _ = _; simp, hs1, .refl _ _⟩
  case round =>
    obtain ⟨M, j, a', c', rfl, rfl, hj, hM, HM, hs', hu'⟩ := hrel
    have hndM : nd M ≤ 1000000 := Nat.le_trans (nd_mono hM) hnd
    have hbM : blen M ≤ 8 * n := Nat.le_trans (blen_mono hM) hN
    by_cases hgo : j < k ∧ 0 < M
    · obtain ⟨hjk, hM0⟩ := hgo
      have hp := nd_pos (N := M) (by omega)
      go_wp2_with fail
      refine (divided_any _ _ M 2 _ hndM (by omega) (by omega) hs'.rd).mono ?_
      rintro e w2 ⟨a2, c2, rfl, hs2, hu2⟩
      go_wp2_with fail
      go_roundw
      case rel => exact ⟨M / 2, j + 1, a2, c2, rfl, by go_num, by omega, by omega, by show _ = _; rw [HM.out, Nat.pow_succ, Nat.div_div_eq_div_mul], hs2, hu'.trans hu2⟩
      case measure => simp [intOf]; omega
    · have HE : Hid (M = N / 2 ^ k) := by
        show _ = _
        rcases Nat.lt_or_ge j k with h | h
        · have h0 : M = 0 := by omega
          have h1 := HM.out
          rw [h0] at h1 ⊢
          have h2 : N / 2 ^ k ≤ N / 2 ^ j := Nat.div_le_div_left (Nat.pow_le_pow_right (by omega) (by omega)) (Nat.pow_pos (by omega))
          rw [← h1] at h2
          exact (Nat.le_zero.mp h2).symm
        · rw [show k = j by omega]; exact HM.out
      by_cases hjk : j < k
      · have hM0 : M = 0 := by omega
        subst hM0
        go_wp2_with fail
        refine (short_any _ _ 0 _ (by omega) hs'.rd).mono ?_
        rw [HE.out]
        rintro e w2 ⟨a2, c2, rfl, hs2, hu2⟩
        go_wp2_with fail
        go_ret
        exact ⟨a2, c2, rfl, hs2, (hu1.trans hu').trans hu2⟩
      · have hq : decide ((j : Int) < (k : Int)) = false := by simpa using hjk
        go_wp2_with fail
        refine (short_any _ _ M _ (by omega) hs'.rd).mono ?_
        rw [HE.out]
        rintro e w2 ⟨a2, c2, rfl, hs2, hu2⟩
        go_wp2_with fail
        go_ret
        exact ⟨a2, c2, rfl, hs2, (hu1.trans hu').trans hu2⟩
end Go.Proofs.Ytchgachankcfiaa
