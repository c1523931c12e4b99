/-
  Plain: steps on a number, one behind the other; the steps in memory.
-/
import Derived.Test.YtpojonfopoobpaaRunS
namespace Go.Proofs.Ytpojonfopoobpaa
open Go.RowKit

theorem stepN_lt {M X A Y : Nat} {z : Int} (hM : 1 < M) (hX : X < M) (h : stepN M X A z = some Y) : Y < M := by
  unfold stepN at h
  by_cases h5 : z = 5
  · rw [if_pos h5] at h
    by_cases ho : M % 2 = 1
    · rw [if_pos ho] at h; cases h; exact Nat.mod_lt _ (by omega)
    · rw [if_neg ho] at h; cases h
  · rw [if_neg h5] at h; exact stpN_lt hM hX h
/-- What the first k steps make of the number X. -/
noncomputable def runN (M : Nat) (K : Nat → Int) (A : Nat → Nat) (X : Nat) : Nat → Option Nat
  | 0 => some X
  | k + 1 => (runN M K A X k).bind fun Y => stepN M Y (A k) (K k)
theorem runN_some {M X Y k : Nat} {K : Nat → Int} {A : Nat → Nat} (h : runN M K A X k = some Y) : runN M K A X (k + 1) = stepN M Y (A k) (K k) := by
  show (runN M K A X k).bind _ = _
  rw [h]; rfl
theorem runN_none {M X k : Nat} {K : Nat → Int} {A : Nat → Nat} (h : runN M K A X k = none) : ∀ {l}, k ≤ l → runN M K A X l = none := by
  intro l hl
  induction l with
  | zero => obtain rfl : k = 0 := by omega
            exact h
  | succ l ih =>
    rcases Nat.lt_or_ge l k with h1 | h1
    · obtain rfl : k = l + 1 := by omega
      exact h
    · show (runN M K A X l).bind _ = _
      rw [ih h1]; rfl
theorem runN_lt {M X : Nat} {K : Nat → Int} {A : Nat → Nat} (hM : 1 < M) (hX : X < M) : ∀ k Y, runN M K A X k = some Y → Y < M
  | 0, Y, h => by cases h; exact hX
  | k + 1, Y, h => by
    cases h1 : runN M K A X k with
    | none => rw [runN_none h1 (Nat.le_succ _)] at h; cases h
    | some Z => rw [runN_some h1] at h; exact stepN_lt hM (runN_lt hM hX k Z h1) h
/-- The steps: kinds K, arguments of n bytes and number A. -/
def Steps (w : World) (s : Option Addr) (L : Nat) (K : Nat → Int) (n A : Nat → Nat) : Prop :=
  ∀ i, i < L → ∃ b off aa ca, s = some ⟨b, off, none⟩ ∧ w.cell? ⟨b, off + i * 2, none⟩ = some (.int .i64 (K i)) ∧ w.cell? ⟨b, off + i * 2 + 1, none⟩ = some (.slice aa (n i) ca) ∧ Bs w aa (n i) ca (A i)
theorem Steps.keep {w w' : World} {s : Option Addr} {L : Nat} {K : Nat → Int} {n A : Nat → Nat} (h : Steps w s L K n A) (hu : Upd0 w w') : Steps w' s L K n A := fun i hi => by
  obtain ⟨b, off, aa, ca, h1, h2, h3, h4⟩ := h i hi
  exact ⟨b, off, aa, ca, h1, hu.cell (p := ⟨b, off + i * 2, none⟩) id h2, hu.cell (p := ⟨b, off + i * 2 + 1, none⟩) id h3, h4.keep hu⟩
end Go.Proofs.Ytpojonfopoobpaa
