/-
  What the laws with appends share: literals of bytes; what has been appended may be written; bytes of an int; DivShort.
-/
import Derived.Test.YtpojonfopoobpaaLwH
import Derived.Test.YtpojonfopoobpaaLawsD
namespace Go.Proofs.Ytpojonfopoobpaa
open Go.RowKit

theorem nb_step {M : Nat} (h : M ≠ 0) : nb (M / 256) + 1 = nb M := by
  have h2 := nb_eq_zero (N := M)
  have h3 := blen_div_pow' M 8
  rw [show (256 : Nat) = 2 ^ 8 from rfl]
  unfold nb at h2 ⊢
  rw [h3]
  omega
theorem mod_next (N k : Nat) : N / 256 ^ k % 256 * 256 ^ k + N % 256 ^ k = N % 256 ^ (k + 1) := by
  rw [Nat.mod_pow_succ, Nat.mul_comm, Nat.add_comm]


set_option maxRecDepth 100000 in
set_option maxHeartbeats 1000000 in
theorem bytesOf_any (N : Nat) (w : World) (hN : N ≤ 9223372036854775807) :
    Calls Try.prog 41 #[.int .i64 N] w (RetBs w (nb N) N) := by
  have hnb : nb N ≤ 8 := (nb_le_iff 8 N).2 (by omega)
  go_enter Try.func41, Try.ntmps41
  go_wp2
  go_loopw [0, 3] (fun x v wr => ∃ (M k : Nat) (a' : Option Addr) (c' : Nat), x = .int .i64 M ∧ v = .slice a' k c' ∧ M ≤ N ∧ Hid (M = N / 256 ^ k) ∧ Hid (k + nb M = nb N) ∧ Bs wr a' k c' (N % 256 ^ k) ∧ Upd0 w wr) (fun x _ _ => (intOf x).toNat)
  case atStart => exact ⟨N, 0, _, _, rfl, rfl, Nat.le_refl _, by show _ = _; simp, by show _ = _; omega, by rw [Nat.pow_zero, Nat.mod_one]; exact ⟨fun _ => 0, fun i hi => absurd hi (Nat.not_lt_zero i), (Grow.made .u8 _ w w.heap.size #[] 0 (fun _ => 0) (Nat.le_refl _) (by simp [maxLen]) rfl).sl, rfl⟩, (Upd.refl _ _).alloc _⟩
  case round =>
    obtain ⟨M, k, a', c', rfl, rfl, hM, HM, HK, hb, hu⟩ := hrel
    by_cases h0 : M = 0
    · subst h0
      have HKE : Hid (k = nb N) := by have := HK.out; rw [nb_zero] at this; show k = nb N; omega
      rw [HKE.out, Nat.mod_eq_of_lt (lt_pow_nb N)] at hb
      go_wp2
      go_ret
      exact ⟨a', c', by rw [HKE.out]; rfl, hb, hu⟩
    · have hM0 : 0 < M := by omega
      have HS : Hid (nb (M / 256) + 1 = nb M) := nb_step h0
      have hk : k < 8 := by have h1 := HK.out; have h2 := HS.out; omega
      have hz := hu.size
      have HNX : Hid (M / 256 = N / 256 ^ (k + 1)) := by show _ = _; rw [HM.out, Nat.pow_succ, Nat.div_div_eq_div_mul]
      have HNK : Hid (k + 1 + nb (M / 256) = nb N) := by have h1 := HK.out; have h2 := HS.out; show _ = _; omega
      obtain ⟨g, hg, hs, hG⟩ := hb
      replace hG := Lib.hid hG
      go_wp2_with (at_builtin; refine wpList_append_sl rfl (.tmp 12) (.tmp 13) 22 rfl w.heap.size 5 .u8 1 Try.underlying22 info_u8 (some ⟨wr.heap.size, 0, none⟩) 1 1 (fun _ => M % 256) rfl (by exact Grow.lit1 .u8 _ wr w.heap.size (M % 256) (by go_num) hz) a' k c' g rfl (by exact hs.keep ((Upd.refl _ _).alloc _)) (by omega) (by omega) (by simp; omega) ?_; intro a2 c2 w2 hg2 hu2)
      go_roundw
      case rel => exact ⟨M / 256, k + 1, a2, c2, by go_num, by rw [Nat.add_comm 1 k], by omega, HNX, HNK, by
        have hB := Grow.bs hg2 (fun _ _ => Nat.mod_lt _ (by omega)) hg
        rw [be_one, hG.out, HM.out, mod_next, Nat.add_comm 1 k] at hB
        exact hB, hu.then (T := fun b => w.heap.size ≤ b) (((Upd.refl _ _).alloc _).then hu2 (fun i _ hi => by simp [Value.ownBlock] at hi; omega)) (fun i h1 h2 => by omega)⟩
      case measure => simp [intOf]; omega
/-- Bytes, a number and true are returned. -/
def RetDivI (w : World) (Q R : Nat) (e : Ending) (w' : World) : Prop := ∃ a c, e = .returned (.tuple #[.slice a (nb Q) c, .int .i64 R, .bool true]) ∧ Bs w' a (nb Q) c Q ∧ Upd0 w w'
theorem iDivShort_bs {a : Option Addr} {n c N y : Nat} {w : World} (hn : n ≤ 100000) (hy : y ≤ 9223372036854775807) (hy0 : 0 < y) (h : Bs w a n c N) :
    Calls Try.prog 47 #[.slice a n c, .int .i64 y] w (RetDivI w (N / y) (N % y)) := by
  obtain ⟨f, h1, h2, rfl⟩ := h
  exact (iDivShort_any a n c y f w hn hy hy0 h1 h2).mono fun e w' ⟨a', c', e1, e2, e3⟩ => ⟨a', c', e1, .of_nb e2, e3⟩
end Go.Proofs.Ytpojonfopoobpaa
