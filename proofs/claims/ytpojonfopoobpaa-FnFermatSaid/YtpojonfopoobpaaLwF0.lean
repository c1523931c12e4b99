/-
  The law FnFermat: what its parts share.
-/
import Derived.Test.YtpojonfopoobpaaByOf
import Derived.Test.YtpojonfopoobpaaFer
namespace Go.Proofs.Ytpojonfopoobpaa
open Go.RowKit

theorem cell_new (w : World) (cs : Array Value) (t B i : Nat) (v : Value) (hB : B = w.heap.size) (h : cs[i]? = some v) : (w.alloc (.cells cs t)).cell? ⟨B, i, none⟩ = some v := by
  subst hB
  rw [World.cell?_alloc_new]
  exact h
theorem last_of {g : Nat → Nat} {n v P : Nat} (hG : be g (n + 1) = P) (hP : P % 256 = v + 1) (hg : g n < 256) : g n = v + 1 := by
  have h1 : be g n * 256 + g n = P := hG
  omega
/-- At a call: what is known of the world. -/
theorem at_world {P : Program} {f : Nat} {args : Array Value} {w : World} {Q : Ending → World → Prop} (R : World → Prop) (hR : R w) (h : ∀ w', R w' → Calls P f args w' Q) : Calls P f args w Q := h w hR

theorem ferLit0 (w : World) (t B : Nat) (hB : B = w.heap.size) : Bs (w.alloc (.cells #[.int .u8 3] t)) (some ⟨B, 0, none⟩) 1 1 3 := by
  subst hB
  have h := Bs.lits w #[.int .u8 3] (fun i => ([3] : List Nat).getD i 0) 1 t (fun i hi => by
    rcases (show i = 0 by omega) with h <;> subst h <;> decide) (fun i hi => by
    rcases (show i = 0 by omega) with h <;> subst h <;> rfl)
  exact h

theorem ferLit1 (w : World) (t B : Nat) (hB : B = w.heap.size) : Bs (w.alloc (.cells #[.int .u8 5] t)) (some ⟨B, 0, none⟩) 1 1 5 := by
  subst hB
  have h := Bs.lits w #[.int .u8 5] (fun i => ([5] : List Nat).getD i 0) 1 t (fun i hi => by
    rcases (show i = 0 by omega) with h <;> subst h <;> decide) (fun i hi => by
    rcases (show i = 0 by omega) with h <;> subst h <;> rfl)
  exact h

theorem ferLit2 (w : World) (t B : Nat) (hB : B = w.heap.size) : Bs (w.alloc (.cells #[.int .u8 101] t)) (some ⟨B, 0, none⟩) 1 1 101 := by
  subst hB
  have h := Bs.lits w #[.int .u8 101] (fun i => ([101] : List Nat).getD i 0) 1 t (fun i hi => by
    rcases (show i = 0 by omega) with h <;> subst h <;> decide) (fun i hi => by
    rcases (show i = 0 by omega) with h <;> subst h <;> rfl)
  exact h

theorem ferLit3 (w : World) (t B : Nat) (hB : B = w.heap.size) : Bs (w.alloc (.cells #[.int .u8 255, .int .u8 241] t)) (some ⟨B, 0, none⟩) 2 2 65521 := by
  subst hB
  have h := Bs.lits w #[.int .u8 255, .int .u8 241] (fun i => ([255, 241] : List Nat).getD i 0) 2 t (fun i hi => by
    rcases (show i = 0 ∨ i = 1 by omega) with h | h <;> subst h <;> decide) (fun i hi => by
    rcases (show i = 0 ∨ i = 1 by omega) with h | h <;> subst h <;> rfl)
  exact h

theorem ferLit4 (w : World) (t B : Nat) (hB : B = w.heap.size) : Bs (w.alloc (.cells #[.int .u8 255, .int .u8 255, .int .u8 255, .int .u8 251] t)) (some ⟨B, 0, none⟩) 4 4 4294967291 := by
  subst hB
  have h := Bs.lits w #[.int .u8 255, .int .u8 255, .int .u8 255, .int .u8 251] (fun i => ([255, 255, 255, 251] : List Nat).getD i 0) 4 t (fun i hi => by
    rcases (show i = 0 ∨ i = 1 ∨ i = 2 ∨ i = 3 by omega) with h | h | h | h <;> subst h <;> decide) (fun i hi => by
    rcases (show i = 0 ∨ i = 1 ∨ i = 2 ∨ i = 3 by omega) with h | h | h | h <;> subst h <;> rfl)
  exact h

theorem ferLit5 (w : World) (t B : Nat) (hB : B = w.heap.size) : Bs (w.alloc (.cells #[.int .u8 31, .int .u8 255, .int .u8 255, .int .u8 255, .int .u8 255, .int .u8 255, .int .u8 255, .int .u8 255] t)) (some ⟨B, 0, none⟩) 8 8 2305843009213693951 := by
  subst hB
  have h := Bs.lits w #[.int .u8 31, .int .u8 255, .int .u8 255, .int .u8 255, .int .u8 255, .int .u8 255, .int .u8 255, .int .u8 255] (fun i => ([31, 255, 255, 255, 255, 255, 255, 255] : List Nat).getD i 0) 8 t (fun i hi => by
    rcases (show i = 0 ∨ i = 1 ∨ i = 2 ∨ i = 3 ∨ i = 4 ∨ i = 5 ∨ i = 6 ∨ i = 7 by omega) with h | h | h | h | h | h | h | h <;> subst h <;> decide) (fun i hi => by
    rcases (show i = 0 ∨ i = 1 ∨ i = 2 ∨ i = 3 ∨ i = 4 ∨ i = 5 ∨ i = 6 ∨ i = 7 by omega) with h | h | h | h | h | h | h | h <;> subst h <;> rfl)
  exact h

theorem ferLit6 (w : World) (t B : Nat) (hB : B = w.heap.size) : Bs (w.alloc (.cells #[.int .u8 255, .int .u8 255, .int .u8 255, .int .u8 255, .int .u8 255, .int .u8 255, .int .u8 255, .int .u8 197] t)) (some ⟨B, 0, none⟩) 8 8 18446744073709551557 := by
  subst hB
  have h := Bs.lits w #[.int .u8 255, .int .u8 255, .int .u8 255, .int .u8 255, .int .u8 255, .int .u8 255, .int .u8 255, .int .u8 197] (fun i => ([255, 255, 255, 255, 255, 255, 255, 197] : List Nat).getD i 0) 8 t (fun i hi => by
    rcases (show i = 0 ∨ i = 1 ∨ i = 2 ∨ i = 3 ∨ i = 4 ∨ i = 5 ∨ i = 6 ∨ i = 7 by omega) with h | h | h | h | h | h | h | h <;> subst h <;> decide) (fun i hi => by
    rcases (show i = 0 ∨ i = 1 ∨ i = 2 ∨ i = 3 ∨ i = 4 ∨ i = 5 ∨ i = 6 ∨ i = 7 by omega) with h | h | h | h | h | h | h | h <;> subst h <;> rfl)
  exact h

theorem ferLit7 (w : World) (t B : Nat) (hB : B = w.heap.size) : Bs (w.alloc (.cells #[.int .u8 127, .int .u8 255, .int .u8 255, .int .u8 255, .int .u8 255, .int .u8 255, .int .u8 255, .int .u8 255, .int .u8 255, .int .u8 255, .int .u8 255, .int .u8 255, .int .u8 255, .int .u8 255, .int .u8 255, .int .u8 255] t)) (some ⟨B, 0, none⟩) 16 16 170141183460469231731687303715884105727 := by
  subst hB
  have h := Bs.lits w #[.int .u8 127, .int .u8 255, .int .u8 255, .int .u8 255, .int .u8 255, .int .u8 255, .int .u8 255, .int .u8 255, .int .u8 255, .int .u8 255, .int .u8 255, .int .u8 255, .int .u8 255, .int .u8 255, .int .u8 255, .int .u8 255] (fun i => ([127, 255, 255, 255, 255, 255, 255, 255, 255, 255, 255, 255, 255, 255, 255, 255] : List Nat).getD i 0) 16 t (fun i hi => by
    rcases (show i = 0 ∨ i = 1 ∨ i = 2 ∨ i = 3 ∨ i = 4 ∨ i = 5 ∨ i = 6 ∨ i = 7 ∨ i = 8 ∨ i = 9 ∨ i = 10 ∨ i = 11 ∨ i = 12 ∨ i = 13 ∨ i = 14 ∨ i = 15 by omega) with h | h | h | h | h | h | h | h | h | h | h | h | h | h | h | h <;> subst h <;> decide) (fun i hi => by
    rcases (show i = 0 ∨ i = 1 ∨ i = 2 ∨ i = 3 ∨ i = 4 ∨ i = 5 ∨ i = 6 ∨ i = 7 ∨ i = 8 ∨ i = 9 ∨ i = 10 ∨ i = 11 ∨ i = 12 ∨ i = 13 ∨ i = 14 ∨ i = 15 by omega) with h | h | h | h | h | h | h | h | h | h | h | h | h | h | h | h <;> subst h <;> rfl)
  exact h

end Go.Proofs.Ytpojonfopoobpaa
