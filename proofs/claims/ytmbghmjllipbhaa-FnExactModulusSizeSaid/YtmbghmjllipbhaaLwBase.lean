/-
  The small contracts of the laws in the words of Bs, each for one answer.
-/
import Derived.Test.YtmbghmjllipbhaaBs
import Derived.Test.YtmbghmjllipbhaaLawsC
namespace Go.Proofs.Ytmbghmjllipbhaa
open Go.RowKit

theorem nb_mono {a b : Nat} (h : a ≤ b) : nb a ≤ nb b := by have := blen_mono h; unfold nb; omega
theorem Bs.one (w : World) (d : Nat) (hd : d < 256) (t : Nat) : Bs (w.alloc (.cells #[.int .u8 (d : Nat)] t)) (some ⟨w.heap.size, 0, none⟩) 1 1 d :=
  ⟨fun _ => d, fun _ _ => hd, ⟨Nat.le_refl _, Rd.one rfl, fun e => by cases e⟩, by simp [be]⟩
theorem Bs.first {w : World} {a : Option Addr} {c N : Nat} (h : Bs w a 1 c N) : ∃ b off, a = some ⟨b, off, none⟩ ∧ w.cell? ⟨b, off, none⟩ = some (.int .u8 (N : Nat)) := by
  obtain ⟨f, h1, h2, h3⟩ := h
  obtain ⟨b, off, e, hc⟩ := h2.rd 0 (by omega)
  refine ⟨b, off, e, ?_⟩
  rw [Nat.add_zero] at hc
  rw [hc, ← h3]
  simp [be]
theorem long_yes {a : Option Addr} {n c N : Nat} {w : World} (h : 300 < n) (_h : Bs w a n c N) : Calls Try.prog 30 #[.slice a n c] w fun e w' => e = .returned (.bool true) ∧ Upd0 w w' :=
  (long_any a n c w).mono fun _ _ ⟨h1, h2⟩ => ⟨by rw [h1, decide_eq_true h], by rw [h2]; exact .refl _ _⟩
theorem long_no {a : Option Addr} {n c N : Nat} {w : World} (h : ¬ 300 < n) (_h : Bs w a n c N) : Calls Try.prog 30 #[.slice a n c] w fun e w' => e = .returned (.bool false) ∧ Upd0 w w' :=
  (long_any a n c w).mono fun _ _ ⟨h1, h2⟩ => ⟨by rw [h1, decide_eq_false h], by rw [h2]; exact .refl _ _⟩
theorem zero_yes {a : Option Addr} {n c N : Nat} {w : World} (hn : n ≤ 1048576) (h : Bs w a n c N) (h0 : N = 0) : Calls Try.prog 33 #[.slice a n c] w fun e w' => e = .returned (.bool true) ∧ Upd0 w w' :=
  (zero_bs hn h).mono fun _ _ ⟨h1, h2⟩ => ⟨by rw [h1, decide_eq_true h0], by rw [h2]; exact .refl _ _⟩
theorem zero_no {a : Option Addr} {n c N : Nat} {w : World} (hn : n ≤ 1048576) (h : Bs w a n c N) (h0 : ¬ N = 0) : Calls Try.prog 33 #[.slice a n c] w fun e w' => e = .returned (.bool false) ∧ Upd0 w w' :=
  (zero_bs hn h).mono fun _ _ ⟨h1, h2⟩ => ⟨by rw [h1, decide_eq_false h0], by rw [h2]; exact .refl _ _⟩
theorem odd_yes {a : Option Addr} {n c N : Nat} {w : World} (hn : n ≤ 1048576) (h : Bs w a n c N) (h0 : ¬ ¬ N % 2 = 1) : Calls Try.prog 34 #[.slice a n c] w fun e w' => e = .returned (.bool true) ∧ Upd0 w w' :=
  (odd_bs hn h).mono fun _ _ ⟨h1, h2⟩ => ⟨by rw [h1, decide_eq_true (by omega)], by rw [h2]; exact .refl _ _⟩
theorem odd_no {a : Option Addr} {n c N : Nat} {w : World} (hn : n ≤ 1048576) (h : Bs w a n c N) (h0 : ¬ N % 2 = 1) : Calls Try.prog 34 #[.slice a n c] w fun e w' => e = .returned (.bool false) ∧ Upd0 w w' :=
  (odd_bs hn h).mono fun _ _ ⟨h1, h2⟩ => ⟨by rw [h1, decide_eq_false h0], by rw [h2]; exact .refl _ _⟩
theorem iShiftRight_bs {a : Option Addr} {n c N : Nat} (k : Nat) {w : World} (hn : n ≤ 100000) (hk : k ≤ 9223372036854775807) (h : Bs w a n c N) : Calls Try.prog 35 #[.slice a n c, .int .i64 k] w (RetBs w (nb (N / 2 ^ k)) (N / 2 ^ k)) := by
  obtain ⟨f, h1, h2, rfl⟩ := h
  exact (iShiftRight_any a n c k f w hn hk h1 h2).mono fun _ _ ⟨a1, c1, h3, h4, h5⟩ => ⟨a1, c1, h3, .of_nb h4, h5⟩
theorem iShiftRight_zero {a : Option Addr} {n c N : Nat} {w : World} (hn : n ≤ 100000) (h : Bs w a n c N) : Calls Try.prog 35 #[.slice a n c, .int .i64 0] w (RetBs w (nb N) N) := by
  have := iShiftRight_bs 0 hn (by omega) h
  rw [Nat.pow_zero, Nat.div_one] at this
  exact this
end Go.Proofs.Ytmbghmjllipbhaa
