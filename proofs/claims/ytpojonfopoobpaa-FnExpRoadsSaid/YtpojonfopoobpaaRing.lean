/-
  Plain laws: what is left by M of sums, differences, products and powers, as whole numbers.
-/
import Derived.Test.YtpojonfopoobpaaNumB
namespace Go.Proofs.Ytpojonfopoobpaa

/-- The whole number A leaves by M what a leaves. -/
def RM (M a : Nat) (A : Int) : Prop := ∃ t : Int, A = a + M * t
theorem RM.base (M a : Nat) : RM M a (a : Int) := ⟨0, by simp⟩
theorem RM.zero (M : Nat) : RM M 0 0 := ⟨0, by simp⟩
theorem RM.one (M : Nat) : RM M 1 1 := ⟨0, by simp⟩
theorem RM.self (M : Nat) : RM M M 0 := ⟨-1, by grind⟩
theorem RM.of_mod {M a V : Nat} {A : Int} (h : V = a % M) (h1 : RM M a A) : RM M V A := by
  obtain ⟨s, hs⟩ := h1
  have hd := Nat.div_add_mod a M
  rw [← h] at hd
  have hd2 : (M : Int) * ((a / M : Nat) : Int) + (V : Int) = (a : Int) := by rw [← Int.natCast_mul, ← Int.natCast_add, hd]
  exact ⟨s + ((a / M : Nat) : Int), by rw [hs, ← hd2]; grind⟩
theorem RM.add {M a b : Nat} {A B : Int} (h1 : RM M a A) (h2 : RM M b B) : RM M (a + b) (A + B) := by
  obtain ⟨s, hs⟩ := h1
  obtain ⟨t, ht⟩ := h2
  exact ⟨s + t, by rw [hs, ht, Int.natCast_add]; grind⟩
theorem RM.sub {M a b : Nat} {A B : Int} (h : b ≤ a + M) (h1 : RM M a A) (h2 : RM M b B) : RM M (a + M - b) (A - B) := by
  obtain ⟨s, hs⟩ := h1
  obtain ⟨t, ht⟩ := h2
  refine ⟨s - t - 1, ?_⟩
  have e : ((a + M - b : Nat) : Int) = (a : Int) + M - b := by omega
  rw [hs, ht, e]; grind
theorem RM.mul {M a b : Nat} {A B : Int} (h1 : RM M a A) (h2 : RM M b B) : RM M (a * b) (A * B) := by
  obtain ⟨s, hs⟩ := h1
  obtain ⟨t, ht⟩ := h2
  exact ⟨s * b + a * t + M * s * t, by rw [hs, ht, Int.natCast_mul]; grind⟩
theorem RM.pow {M a : Nat} {A : Int} (h : RM M a A) : ∀ e : Nat, RM M (a ^ e) (A ^ e)
  | 0 => by rw [Nat.pow_zero, Int.pow_zero]; exact .one M
  | e + 1 => by rw [Nat.pow_succ, Int.pow_succ]; exact (RM.pow h e).mul h
theorem RM.addm {M a b V : Nat} {A B : Int} (h : V = (a + b) % M) (h1 : RM M a A) (h2 : RM M b B) : RM M V (A + B) := .of_mod h (h1.add h2)
theorem RM.subm {M a b V : Nat} {A B : Int} (h : V = (a + M - b) % M) (hb : b ≤ a + M) (h1 : RM M a A) (h2 : RM M b B) : RM M V (A - B) := .of_mod h (h1.sub hb h2)
theorem RM.mulm {M a b V : Nat} {A B : Int} (h : V = (a * b) % M) (h1 : RM M a A) (h2 : RM M b B) : RM M V (A * B) := .of_mod h (h1.mul h2)
theorem RM.powm {M a e V : Nat} {A : Int} (h : V = a ^ e % M) (h1 : RM M a A) : RM M V (A ^ e) := .of_mod h (h1.pow e)
theorem RM.cast {M a : Nat} {A B : Int} (h : RM M a A) (e : A = B) : RM M a B := e ▸ h
theorem RM.done {M p q : Nat} {P Q : Int} (hp : p < M) (hq : q < M) (h1 : RM M p P) (h2 : RM M q Q) (e : P = Q) : p = q := by
  obtain ⟨s, hs⟩ := h1
  obtain ⟨t, ht⟩ := h2
  have h3 : (p : Int) + M * s = q + M * t := by rw [← hs, ← ht, e]
  have h4 : ((p : Int) + M * s) % M = (q + M * t) % M := by rw [h3]
  rw [Int.add_mul_emod_self_left, Int.add_mul_emod_self_left, Int.emod_eq_of_lt (by omega) (by omega), Int.emod_eq_of_lt (by omega) (by omega)] at h4
  omega
theorem nb_pos1 (M : Nat) : 1 < M → 1 ≤ nb M := fun h => by
  have := blen_pos (n := M) (by omega)
  unfold nb; omega
end Go.Proofs.Ytpojonfopoobpaa
