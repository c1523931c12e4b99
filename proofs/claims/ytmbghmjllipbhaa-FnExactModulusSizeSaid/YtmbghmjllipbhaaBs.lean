/-
  Bytes as numbers: the words in which the contracts of the thin package, of the reference and the laws speak of bytes.
-/
import Derived.Test.YtmbghmjllipbhaaSame
import Derived.Test.YtmbghmjllipbhaaLawsA
namespace Go.Proofs.Ytmbghmjllipbhaa
open Go.RowKit

/-- A slice of n bytes, whose number is N. -/
def Bs (w : World) (a : Option Addr) (n c N : Nat) : Prop := ∃ f : Nat → Nat, (∀ i, i < n → f i < 256) ∧ Sl .u8 w a n c f ∧ be f n = N
theorem Bs.mk' {w : World} {a : Option Addr} {n c : Nat} {f : Nat → Nat} (hf : ∀ i, i < n → f i < 256) (hs : Sl .u8 w a n c f) : Bs w a n c (be f n) := ⟨f, hf, hs, rfl⟩
theorem Bs.keep {w w' : World} {a : Option Addr} {n c N : Nat} (h : Bs w a n c N) (hu : Upd0 w w') : Bs w' a n c N := by
  obtain ⟨f, h1, h2, h3⟩ := h
  exact ⟨f, h1, h2.keep hu, h3⟩
theorem Bs.lt {w : World} {a : Option Addr} {n c N : Nat} (h : Bs w a n c N) : N < 256 ^ n := by
  obtain ⟨f, h1, h2, h3⟩ := h
  rw [← h3]; exact be_lt h1
theorem Bs.nb {w : World} {a : Option Addr} {n c N : Nat} (h : Bs w a n c N) : nb N ≤ n := (nb_le_iff n N).2 h.lt
theorem Bs.blen {w : World} {a : Option Addr} {n c N : Nat} (h : Bs w a n c N) : blen N ≤ 8 * n := by rw [blen_le_iff, ← pow8]; exact h.lt
theorem Bs.nd {w : World} {a : Option Addr} {n c N : Nat} (h : Bs w a n c N) : nd N ≤ n := by have := h.blen; unfold Proofs.Ytmbghmjllipbhaa.nd; omega
theorem Bs.of_dg {w : World} {a : Option Addr} {s c N : Nat} (h : Sl .u8 w a s c (fun i => dg 256 N (s - 1 - i))) (hN : N < 256 ^ s) : Bs w a s c N :=
  ⟨_, fun i _ => dg_lt (by omega) _ _, h, be_of_dg hN⟩
theorem Bs.of_nb {w : World} {a : Option Addr} {c N : Nat} (h : Sl .u8 w a (Proofs.Ytmbghmjllipbhaa.nb N) c (fun i => dg 256 N (Proofs.Ytmbghmjllipbhaa.nb N - 1 - i))) : Bs w a (Proofs.Ytmbghmjllipbhaa.nb N) c N := .of_dg h (lt_pow_nb N)
theorem Bs.emp (w : World) : Bs w none 0 0 0 := ⟨fun _ => 0, fun i hi => absurd hi (Nat.not_lt_zero i), .empty _ _ _, rfl⟩
/-- The bytes of N in s places are known. -/
theorem Bs.sl {w : World} {a : Option Addr} {n c N : Nat} (h : Bs w a n c N) : Sl .u8 w a n c (fun i => dg 256 N (n - 1 - i)) := by
  obtain ⟨f, h1, h2, h3⟩ := h
  refine h2.congr fun i hi => ?_
  rw [← h3, be_dg h1 (n - 1 - i) (by omega)]
  congr 1; omega
theorem Bs.f_lt (N n : Nat) : ∀ i, i < n → (fun i => dg 256 N (n - 1 - i)) i < 256 := fun i _ => dg_lt (by omega) _ _

/-- Bytes, and whether there are any, are returned. -/
def RetOpt (w : World) (o : Option (Nat × Nat)) (e : Ending) (w' : World) : Prop :=
  match o with
  | none => e = .returned (.tuple #[.slice none 0 0, .bool false]) ∧ Upd0 w w'
  | some (s, N) => ∃ a c, e = .returned (.tuple #[.slice a s c, .bool true]) ∧ Bs w' a s c N ∧ Upd0 w w'
/-- A number, and whether there is one, are returned. -/
def RetInt (w : World) (o : Option Nat) (e : Ending) (w' : World) : Prop :=
  match o with
  | none => e = .returned (.tuple #[.int .i64 0, .bool false]) ∧ Upd0 w w'
  | some N => e = .returned (.tuple #[.int .i64 N, .bool true]) ∧ Upd0 w w'
/-- Bytes alone are returned. -/
def RetBs (w : World) (s N : Nat) (e : Ending) (w' : World) : Prop := ∃ a c, e = .returned (.slice a s c) ∧ Bs w' a s c N ∧ Upd0 w w'

theorem be_inj {f g : Nat → Nat} {n : Nat} (hf : ∀ i, i < n → f i < 256) (hg : ∀ i, i < n → g i < 256) (h : be f n = be g n) : ∀ i, i < n → f i = g i := by
  intro i hi
  have h1 := be_dg hf (n - 1 - i) (by omega)
  have h2 := be_dg hg (n - 1 - i) (by omega)
  rw [show n - 1 - (n - 1 - i) = i by omega] at h1 h2
  rw [← h1, ← h2, h]
theorem sameB_iff {n m : Nat} {f g : Nat → Nat} (hf : ∀ i, i < n → f i < 256) (hg : ∀ i, i < m → g i < 256) : sameB n m f g = decide (n = m ∧ be f n = be g m) := by
  unfold sameB
  refine decide_eq_decide.2 ⟨fun ⟨h1, h2⟩ => ⟨h1, by subst h1; exact be_congr h2⟩, fun ⟨h1, h2⟩ => ⟨h1, by subst h1; exact be_inj hf hg h2⟩⟩
/-- The law's comparison of bytes. -/
theorem same_bs {a a' : Option Addr} {n m c c' N M : Nat} {w : World} (hn : n ≤ 1048576) (h : Bs w a n c N) (h' : Bs w a' m c' M) :
    Calls Try.prog 28 #[.slice a n c, .slice a' m c'] w fun e w' => e = .returned (.bool (decide (n = m ∧ N = M))) ∧ Upd0 w w' := by
  obtain ⟨f, h1, h2, rfl⟩ := h
  obtain ⟨g, h3, h4, rfl⟩ := h'
  refine (same_any a a' n m c c' f g w hn h1 h3 h2.rd h4.rd).mono fun e w' ⟨h5, k, h6⟩ => ⟨?_, ?_⟩
  · rw [h5, sameB_iff h1 h3]
  · rw [h6]; exact (Upd.refl _ _).drewN k
theorem same_eq {a a' : Option Addr} {n c c' N : Nat} {w : World} (hn : n ≤ 1048576) (h : Bs w a n c N) (h' : Bs w a' n c' N) :
    Calls Try.prog 28 #[.slice a n c, .slice a' n c'] w fun e w' => e = .returned (.bool true) ∧ Upd0 w w' := by
  have := same_bs hn h h'
  simpa using this
theorem zero_bs {a : Option Addr} {n c N : Nat} {w : World} (hn : n ≤ 1048576) (h : Bs w a n c N) :
    Calls Try.prog 33 #[.slice a n c] w fun e w' => e = .returned (.bool (decide (N = 0))) ∧ w = w' := by
  obtain ⟨f, h1, h2, rfl⟩ := h
  exact zero_any a n c f w hn h1 h2.rd
theorem odd_bs {a : Option Addr} {n c N : Nat} {w : World} (hn : n ≤ 1048576) (h : Bs w a n c N) :
    Calls Try.prog 34 #[.slice a n c] w fun e w' => e = .returned (.bool (decide (N % 2 = 1))) ∧ w = w' := by
  obtain ⟨f, h1, h2, rfl⟩ := h
  exact odd_any a n c f w hn h1 h2.rd
theorem read_bs {a : Option Addr} {n c N : Nat} {w : World} (hn : n ≤ 1000000) (h : Bs w a n c N) :
    Calls Try.prog 82 #[.slice a n c] w (RetNum w N) := by
  obtain ⟨f, h1, h2, rfl⟩ := h
  exact read_any a n c f w hn h1 h2.rd
theorem free_bs {a : Option Addr} {n c N : Nat} {w : World} (hn : n ≤ 100000) (h : Bs w a n c N) :
    Calls Try.prog 80 #[.slice a n c] w (RetFree w N) := by
  obtain ⟨f, h1, h2, rfl⟩ := h
  exact free_any a n c f w hn h1 h2
end Go.Proofs.Ytmbghmjllipbhaa
