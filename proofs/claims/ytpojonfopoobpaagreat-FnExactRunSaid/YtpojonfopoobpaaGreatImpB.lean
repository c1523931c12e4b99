/-
  Contracts: impl.SubOne, IsMinusOne, SetOverflowing, Inverse.
-/
import Derived.Test.YtpojonfopoobpaaGreatMulI
namespace Go.Proofs.YtpojonfopoobpaaGreat
open Go.RowKit

/-- The bits of the highest limbs tell which number has more. -/
theorem top_cmp {n X M : Nat} (hn : nl M = n) (h0 : 0 < n) (hX : X < W64 ^ n) : blen (dg W64 M (n - 1)) < blen (dg W64 X (n - 1)) ↔ blen M < blen X := by
  obtain ⟨j, rfl⟩ : ∃ j, n = j + 1 := ⟨n - 1, by omega⟩
  rw [Nat.add_sub_cancel]
  have hM : M < W64 ^ (j + 1) := by rw [← hn]; exact lt_pow_nl M
  have ht : dg W64 M j ≠ 0 := fun h => by
    have := (nl_le_iff j M).2 (lt_of_no_top hM h)
    omega
  have e1 := blen_topW hM ht
  have hp := blen_pos ht
  by_cases hz : dg W64 X j = 0
  · have h1 : blen X ≤ 64 * j := by rw [blen_le_iff, ← powW]; exact lt_of_no_top hX hz
    rw [hz, blen_zero]; omega
  · have e2 := blen_topW hX hz
    omega
theorem lt_two_of_blen {X M : Nat} (h0 : 0 < M) (h : blen X ≤ blen M) : X < 2 * M := by
  have h1 := (blen_le_iff (blen M) X).1 h
  have hp := blen_pos (n := M) (by omega)
  have h2 := two_pow_le_of_blen (n := M) (k := blen M - 1) (by omega)
  obtain ⟨j, hj⟩ : ∃ j, blen M = j + 1 := ⟨blen M - 1, by omega⟩
  rw [hj] at h1 h2
  rw [Nat.add_sub_cancel] at h2
  rw [Nat.pow_succ] at h1
  omega
theorem msN_small {n X M : Nat} (hM : M < W64 ^ n) (hX : X < W64 ^ n) (h : X < 2 * M) : msN n 0 X M = X % M := by
  have h1 := msN_eq (n := n) (T := X) (M := M) hM (by omega)
  rw [Nat.div_eq_of_lt hX, Nat.mod_eq_of_lt hX] at h1
  rw [h1, redN_mod h]
theorem maybeSub_zero (p b c n X mp q b' c' M : Nat) (w : World) (hx : NatAt w p b c n X) (hm : MNat w mp q b' c' n M) :
    Calls Tryz.prog 55 #[.pointer (some ⟨p, 0, none⟩), .int .u64 0, .pointer (some ⟨mp, 0, none⟩)] w fun e w' => e = .returned (.tuple #[]) ∧ NatAt w' p b c n (msN n 0 X M) ∧ Upd (fun k => k = b) w w' := maybeSub_any p b c n X 0 mp q b' c' M w hx hm (by omega)
end Go.Proofs.YtpojonfopoobpaaGreat
