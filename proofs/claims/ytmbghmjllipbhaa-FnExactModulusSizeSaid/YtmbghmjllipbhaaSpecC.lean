/-
  Contracts of the reference's divided and ShiftRight.
-/
import Derived.Test.YtmbghmjllipbhaaSpecB
namespace Go.Proofs.Ytmbghmjllipbhaa
open Go.RowKit

/-- A quotient and what is left, a number below the base of digits. -/
def RetDiv (w : World) (Q R : Nat) (e : Ending) (w' : World) : Prop :=
  ∃ a c, e = .returned (.tuple #[.slice a (nd Q) c, .int .i64 R]) ∧ Sl .i64 w' a (nd Q) c (dg 65536 Q) ∧ Upd0 w w'

set_option maxHeartbeats 400000 in
theorem divided_any (a : Option Addr) (c N d : Nat) (w : World) (hn : nd N ≤ 1000000) (hd0 : 0 < d) (hd : d < 65536) (hr : Rd .i64 w a (nd N) (dg 65536 N)) :
    Calls Try.prog 150 #[.slice a (nd N) c, .int .i64 d] w (RetDiv w (N / d) (N % d)) := by
  have HL : Hid (N < 65536 ^ nd N) := lt_pow_nd N
  have HQ : Hid (N / d < 65536 ^ nd N) := Nat.lt_of_le_of_lt (Nat.div_le_self _ _) (lt_pow_nd N)
  generalize nd N = m at *
  have hmk := make_num m (by omega)
  go_enter Try.func150, Try.ntmps150
  go_wp2
  go_loopw [7, 8] (fun t i wr => ∃ k r : Nat, k ≤ m ∧ i = .int .i64 ((k : Int) - 1) ∧ t = .int .i64 r ∧ r < d ∧ Hid (r = N / 65536 ^ k % d) ∧ Own .i64 wr w.heap.size m (fun j => if k ≤ j then dg 65536 (N / d) j else 0) ∧ Upd0 w wr) (fun _ i _ => (intOf i + 1).toNat)
  case atStart => exact ⟨m, 0, Nat.le_refl _, rfl, rfl, hd0, by show _ = _; rw [Nat.div_eq_of_lt HL.out, Nat.zero_mod], (Own.made .i64 w m _).congr (fun j hj => by rw [if_neg (by omega)]), (Upd.refl _ _).alloc _⟩
  case round =>
    obtain ⟨k, r, hk, rfl, rfl, hrd, HR, hown, hu⟩ := hrel
    clear hmk
    by_cases h0 : k = 0
    · subst h0
      have HR2 : Rd .i64 wr (some ⟨w.heap.size, 0, none⟩) m (dg 65536 (N / d)) := hown.rd.congr (fun j hj => by rw [if_pos (Nat.zero_le _)])
      have HR3 : Hid (r = N % d) := by have := HR.out; show r = N % d; simpa using this
      clear hown
      go_wp2_with fail
      refine (trimmed_any _ _ _ _ _ (by omega) (Nat.le_refl _) HQ.out HR2).mono ?_
      rintro e w' ⟨rfl, rfl⟩
      go_wp2_with fail
      go_ret2
      exact ⟨_, _, by rw [HR3.out]; rfl, ⟨(nd_le_iff _ _).2 HQ.out, HR2.le ((nd_le_iff _ _).2 HQ.out), fun e => by cases e⟩, hu⟩
    · obtain ⟨j, rfl⟩ : ∃ j, k = j + 1 := ⟨k - 1, by omega⟩
      obtain ⟨b, off, g, rfl, hcell, hg, HG⟩ := num_cell (hr.keep hu) (show j < m by omega)
      have hcell2 := hown.cell j (by omega)
      have hfree2 := hown.free j (by omega)
      have HS := dg_quot (b := 65536) (N := N) (d := d) (j := j) (by omega) hd0
      rw [← HR.out, ← HG.out] at HS
      have HS := Lib.hid HS
      have hb1 : r * 65536 + g < d * 65536 := by
        have : (r + 1) * 65536 ≤ d * 65536 := Nat.mul_le_mul_right _ hrd
        omega
      have hdz : ¬ (d : Int) = 0 := by omega
      go_wp2
      go_roundw
      case rel => exact ⟨j, (r * 65536 + g) % d, by omega, rfl, by go_num, Nat.mod_lt _ hd0, HS.out.2.symm, by
        have h := hown.set (i := j) (by omega) ((r * 65536 + g) / d)
        rw [show (((r * 65536 + g) / d : Nat) : Int) = ((r : Int) * 65536 + (g : Int)) / (d : Int) from by simp] at h
        refine h.congr fun i hi => ?_
        by_cases e : i = j
        · subst e; rw [if_pos rfl, if_pos (Nat.le_refl _), HS.out.1]
        · rw [if_neg e]
          by_cases e2 : j + 1 ≤ i
          · rw [if_pos e2, if_pos (by omega)]
          · rw [if_neg e2, if_neg (by omega)], hu.setCell _ _ (fun h => by simp at h)⟩
      case measure => simp [intOf]

end Go.Proofs.Ytmbghmjllipbhaa
