/-
  Contracts of the reference's small and product.
  Contracts of the reference's taken and putBack.
  Contract of the reference's quotient.
-/
import Derived.Test.YtgdjhkmofedhpaaDoorImplA
import Derived.Test.YtgdjhkmofedhpaaDoorPlain
namespace Go.Proofs.YtgdjhkmofedhpaaDoor
open Go.RowKit


end Go.Proofs.YtgdjhkmofedhpaaDoor

namespace Go.Proofs.YtgdjhkmofedhpaaDoor
open Go.RowKit

/-- What stands behind taken: D was taken from U, where it could be; else there is M more. -/
def TakenPost (w : World) (g lu U D M : Nat) (e : Ending) (w' : World) : Prop :=
  (D ≤ U → e = .returned (.bool true) ∧ Own .i64 w' g lu (dg 65536 (U - D))) ∧ (¬ D ≤ U → e = .returned (.bool false) ∧ Own .i64 w' g lu (dg 65536 (U + M - D))) ∧ Upd (fun k => k = g) w w'
/-- What stands behind putBack: D was put to U, less M where that goes round. -/
def PutPost (w : World) (g lu U D M : Nat) (e : Ending) (w' : World) : Prop :=
  (M ≤ U + D → e = .returned (.bool true) ∧ Own .i64 w' g lu (dg 65536 (U + D - M))) ∧ (¬ M ≤ U + D → e = .returned (.bool false) ∧ Own .i64 w' g lu (dg 65536 (U + D))) ∧ Upd (fun k => k = g) w w'

end Go.Proofs.YtgdjhkmofedhpaaDoor

namespace Go.Proofs.YtgdjhkmofedhpaaDoor
open Go.RowKit

def fitB (D U : Nat) : Bool := decide (D ≤ U)
def leftN (U D M : Nat) : Nat := if D ≤ U then U - D else U + M - D
theorem TakenPost.out {w : World} {g lu U D M : Nat} {e : Ending} {w' : World} (h : TakenPost w g lu U D M e w') : e = .returned (.bool (fitB D U)) ∧ Own .i64 w' g lu (dg 65536 (leftN U D M)) ∧ Upd (fun k => k = g) w w' := by
  by_cases hD : D ≤ U
  · obtain ⟨h1, h2⟩ := h.1 hD
    exact ⟨by rw [h1, fitB, decide_eq_true hD], by rw [leftN, if_pos hD]; exact h2, h.2.2⟩
  · obtain ⟨h1, h2⟩ := h.2.1 hD
    exact ⟨by rw [h1, fitB, decide_eq_false hD], by rw [leftN, if_neg hD]; exact h2, h.2.2⟩
/-- Putting back once where too much had been taken. -/
theorem PutPost.out {w : World} {g lu R D x M : Nat} {e : Ending} {w' : World} (h : PutPost w g lu (leftN R (x * D) M) D M e w') (hx : fitB (x * D) R = false) (hM : x * D ≤ M) (hx0 : 0 < x) :
    e = .returned (.bool (fitB ((x - 1) * D) R)) ∧ Own .i64 w' g lu (dg 65536 (leftN R ((x - 1) * D) M)) ∧ Upd (fun k => k = g) w w' := by
  have h1 : ¬ x * D ≤ R := of_decide_eq_false hx
  have h2 : (x - 1) * D + D = x * D := by
    obtain ⟨y, rfl⟩ : ∃ y, x = y + 1 := ⟨x - 1, by omega⟩
    rw [Nat.add_sub_cancel, Nat.add_mul, Nat.one_mul]
  rw [leftN, if_neg h1] at h
  by_cases hD : (x - 1) * D ≤ R
  · obtain ⟨h3, h4⟩ := h.1 (by omega)
    refine ⟨by rw [h3, fitB, decide_eq_true hD], ?_, h.2.2⟩
    rw [leftN, if_pos hD, show R - (x - 1) * D = R + M - x * D + D - M by omega]; exact h4
  · obtain ⟨h3, h4⟩ := h.2.1 (by omega)
    refine ⟨by rw [h3, fitB, decide_eq_false hD], ?_, h.2.2⟩
    rw [leftN, if_neg hD, show R + M - (x - 1) * D = R + M - x * D + D by omega]; exact h4
theorem leftN_lt {R D M : Nat} (h : R < M) (_hD : D ≤ M) : leftN R D M < M := by unfold leftN; split <;> omega

/-- The pair of quotient and rest is returned. -/
def RetQuot (w : World) (Q R : Nat) (e : Ending) (w' : World) : Prop :=
  ∃ a c a' c', e = .returned (.tuple #[.slice a (nd Q) c, .slice a' (nd R) c']) ∧ Sl .i64 w' a (nd Q) c (dg 65536 Q) ∧ Sl .i64 w' a' (nd R) c' (dg 65536 R) ∧ Upd0 w w'

theorem Grow.own {k : IntKind} {e : TypeId} {w : World} {base : Nat} {a : Option Addr} {c n : Nat} {f : Nat → Nat} (h : Grow k e w base a c n f) (hn : 0 < n) : ∃ g, a = some ⟨g, 0, none⟩ ∧ Own k w g n f ∧ base ≤ g ∧ g < w.heap.size := by
  rcases h.2 with ⟨h1, h2⟩ | ⟨g, cap, cur, h1, h2, h3, h4⟩
  · omega
  · cases h1
    refine ⟨g, rfl, ⟨fun i hi => ?_, fun i _ => World.ownsRow.frozenAt h i⟩, h2, (Array.getElem?_eq_some_iff.1 h3).1⟩
    have := h.rd.open hn
    obtain ⟨b, off, h5, h6⟩ := this
    cases h5
    have := h6 i hi
    rwa [Nat.zero_add] at this

theorem Sl.keep' {S : Nat → Prop} {k : IntKind} {w w' : World} {a : Option Addr} {n c : Nat} {f : Nat → Nat} (h : Sl k w a n c f) (hu : Upd S w w') (hS : ∀ b off, a = some ⟨b, off, none⟩ → ¬ S b) : Sl k w' a n c f :=
  ⟨h.le, fun i hi => by
    obtain ⟨b, off, h1, h2⟩ := h.rd i hi
    exact ⟨b, off, h1, hu.cell (p := ⟨b, off + i, none⟩) (hS b off h1) h2⟩, h.nil⟩

end Go.Proofs.YtgdjhkmofedhpaaDoor
