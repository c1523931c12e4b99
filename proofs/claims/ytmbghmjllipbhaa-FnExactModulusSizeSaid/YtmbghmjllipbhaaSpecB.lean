/-
  The contract of the reference's read: the number of bytes.
-/
import Derived.Test.YtmbghmjllipbhaaSpecA
namespace Go.Proofs.Ytmbghmjllipbhaa
open Go.RowKit

/-- A byte that is read, behind a name. -/
theorem byte_cell {a : Option Addr} {n j : Nat} {f : Nat → Nat} {w : World} (hr : Rd .u8 w a n f) (hf : ∀ i, i < n → f i < 256) (hj : j < n) :
    ∃ b off d, a = some ⟨b, off, none⟩ ∧ w.cell? ⟨b, off + j, none⟩ = some (.int .u8 (d : Nat)) ∧ d < 256 ∧ Hid (d = f j) := by
  obtain ⟨b, off, rfl, h⟩ := hr j hj
  exact ⟨b, off, _, rfl, h, hf j hj, rfl⟩

set_option maxHeartbeats 400000 in
theorem read_any (a : Option Addr) (n c : Nat) (f : Nat → Nat) (w : World) (hn : n ≤ 1000000) (hf : ∀ i, i < n → f i < 256) (hr : Rd .u8 w a n f) :
    Calls Try.prog 82 #[.slice a n c] w (RetNum w (be f n)) := by
  have hmk := make_num (n / 2 + 1) (by omega)
  rw [show ((n / 2 + 1 : Nat) : Int) = (n : Int) / 2 + 1 from by omega] at hmk
  obtain ⟨N, hN⟩ : ∃ N, N = be f n := ⟨_, rfl⟩
  have HL : Hid (N < 65536 ^ (n / 2 + 1)) := by rw [hN]; exact nd_le_of_bytes (be_lt hf)
  have HL2 : Hid (N < 256 ^ n) := by rw [hN]; exact be_lt hf
  have HB : Hid (∀ i, i < n → dg 256 N i = f (n - 1 - i)) := by rw [hN]; exact be_dg hf
  rw [← hN]
  clear hN
  go_enter Try.func82, Try.ntmps82
  go_wp2
  go_loopw [4] (fun i wr => ∃ k : Nat, k ≤ n ∧ i = .int .i64 k ∧ Own .i64 wr w.heap.size (n / 2 + 1) (dg 65536 (N % 256 ^ k)) ∧ Upd0 w wr) (fun i _ => n - (intOf i).toNat)
  case atStart => exact ⟨0, Nat.zero_le _, rfl, (Own.made .i64 w (n / 2 + 1) _).congr (fun j hj => by rw [Nat.pow_zero, Nat.mod_one, dg_of_lt (Nat.pow_pos (by omega))]), (Upd.refl _ _).alloc _⟩
  case round =>
    obtain ⟨k, hk, rfl, hown, hu⟩ := hrel
    clear hmk
    by_cases hlt : k < n
    · obtain ⟨b, off, d, rfl, hcell, hd, HD⟩ := byte_cell (hr.keep hu) hf (show n - 1 - k < n by omega)
      have HD : Hid (d = dg 256 N k) := by show _ = _; rw [HD.out, HB.out k hlt]
      have hcell2 := hown.cell (k / 2) (by omega)
      have hfree2 := hown.free (k / 2) (by omega)
      have HS : Hid (∀ j, dg 65536 (N % 256 ^ (k + 1)) j = if j = k / 2 then dg 65536 (N % 256 ^ k) j + (if k % 2 = 1 then d * 256 else d) else dg 65536 (N % 256 ^ k) j) := by
        rw [HD.out]; exact dg_next_byte N k
      have ho2 : dg 65536 (N % 256 ^ k) (k / 2) < 65536 := dg_lt (by omega) _ _
      obtain ⟨o, HO⟩ : ∃ o, Hid (o = dg 65536 (N % 256 ^ k) (k / 2)) := ⟨_, rfl⟩
      rw [← HO.out] at hcell2 ho2
      by_cases h2 : k % 2 = 1
      · have h2' : ((k : Int) % 2 == 1) = true := by rw [beq_iff_eq]; omega
        go_wp2
        go_roundw
        case rel => exact ⟨k + 1, by omega, by go_num, by
          have := (hown.set (i := k / 2) (by omega) (o + d * 256))
          rw [show ((o + d * 256 : Nat) : Int) = (o : Int) + (d : Int) * 256 from by omega] at this
          refine this.congr fun j hj => ?_
          rw [HS.out j]
          by_cases e : j = k / 2
          · rw [if_pos e, if_pos e, if_pos h2, e, HO.out]
          · rw [if_neg e, if_neg e], hu.setCell _ _ (fun h => by simp at h)⟩
        case measure => simp [intOf]; omega
      · have h2' : ((k : Int) % 2 == 1) = false := by rw [beq_eq_false_iff_ne]; omega
        go_wp2
        go_roundw
        case rel => exact ⟨k + 1, by omega, by go_num, by
          have := (hown.set (i := k / 2) (by omega) (o + d))
          rw [show ((o + d : Nat) : Int) = (o : Int) + (d : Int) from by omega] at this
          refine this.congr fun j hj => ?_
          rw [HS.out j]
          by_cases e : j = k / 2
          · rw [if_pos e, if_pos e, if_neg h2, e, HO.out]
          · rw [if_neg e, if_neg e], hu.setCell _ _ (fun h => by simp at h)⟩
        case measure => simp [intOf]; omega
    · have e : k = n := by omega
      subst e
      have HR : Rd .i64 wr (some ⟨w.heap.size, 0, none⟩) (k / 2 + 1) (dg 65536 N) := hown.rd.congr (fun j hj => by rw [Nat.mod_eq_of_lt HL2.out])
      clear hown
      go_wp2_with fail
      refine (trimmed_any _ _ _ _ _ (by omega) (Nat.le_refl _) HL.out HR).mono ?_
      rintro e w' ⟨rfl, rfl⟩
      go_wp2_with fail
      go_ret
      exact ⟨_, _, rfl, ⟨(nd_le_iff _ _).2 HL.out, HR.le ((nd_le_iff _ _).2 HL.out), fun e => by cases e⟩, hu⟩
end Go.Proofs.Ytmbghmjllipbhaa
