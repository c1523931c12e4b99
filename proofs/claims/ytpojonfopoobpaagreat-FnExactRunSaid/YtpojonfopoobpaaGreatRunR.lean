/-
  An argument that is a slice of steps, as the row's frame tells it.
-/
import Derived.Test.YtpojonfopoobpaaGreatRunP
import Derived.Deep.SlicePairs
import Derived.ChangeSlices
namespace Go.Proofs.YtpojonfopoobpaaGreat
open Go.RowKit Go.ChangeShapes Go.WideShapes Go.Deep

theorem steps_of_trod {H : Type} {enc : TypeId × Value → H} {w : World} {fuel : Nat} {a : Option Addr} {len cap : Nat} {x : DataW H × List MemPlace}
    (h : DataW.trod enc Tryz.prog w 0 (fun _ => true) true fuel 23 [.slice a len cap] = some x) : ∃ (K : Nat → Int) (na A : Nat → Nat), Steps w a len K na A := by
  rcases open_slice_pairs Tryz.underlying23 Tryz.underlying27 (by kernel_rfl) rfl rfl (by kernel_rfl) (by kernel_rfl) h with ⟨hcs, _⟩ | ⟨x, l, c, m, n, V0, V1, D0, D1, P0, P1, hcs, _, hl, hm, hmm, hx, hi⟩
  · simp at hcs
    obtain ⟨rfl, rfl, rfl⟩ := hcs
    exact ⟨fun _ => 0, fun _ => 0, fun _ => 0, fun i hi => absurd hi (Nat.not_lt_zero i)⟩
  · simp at hcs
    obtain ⟨rfl, rfl, rfl⟩ := hcs
    have hlm : len ≤ m := by rw [hmm]; simpa using hl
    have each : ∀ i, i < len → ∃ q : Int × Nat × Nat, ∃ b off aa ca, some x = some (⟨b, off, none⟩ : Addr) ∧ w.cell? ⟨b, off + i * 2, none⟩ = some (.int .i64 q.1) ∧ w.cell? ⟨b, off + i * 2 + 1, none⟩ = some (.slice aa q.2.1 ca) ∧ Bs w aa q.2.1 ca q.2.2 := by
      intro i hi'
      obtain ⟨c0, c1, t0, t1⟩ := hi i (by omega)
      obtain ⟨z, e0, _, _⟩ := DataW.trod_int Tryz.underlying3 t0
      have e0' : V0 i = .int .i64 z := by simpa using e0
      have hbs : ∃ aa nn ca N, V1 i = .slice aa nn ca ∧ Bs w aa nn ca N := by
        rcases open_ints Tryz.underlying22 Tryz.underlying5 (by kernel_rfl) t1 with ⟨e1, _⟩ | ⟨y, l, c, zs, e1, _, h1, h2, h3, _, h4, h5⟩
        · exact ⟨none, 0, 0, 0, by simpa using e1, Bs.emp _⟩
        · obtain ⟨f, hf, hs⟩ := sl_of_row (a := some y) (.inr ⟨y, rfl, h1, h2, by simpa using h3, h4, h5⟩)
          exact ⟨some y, l, c, _, by simpa using e1, .mk' hf hs⟩
      obtain ⟨aa, nn, ca, N, e1, hB⟩ := hbs
      rw [e0'] at c0
      rw [e1] at c1
      cases hsp : x.spot with
      | none =>
        obtain ⟨b, off, sp⟩ := x
        simp only at hsp
        subst hsp
        rw [Addr.add_mk] at c0 c1
        exact ⟨(z, nn, N), b, off, aa, ca, rfl, c0, by rw [Nat.add_assoc]; exact c1, hB⟩
      | some s =>
        obtain ⟨g0, _, _, _⟩ := hi 0 (by omega)
        have h4 : x.add (0 * 2) = x := by simp [Addr.add]
        rw [h4] at g0
        simp only [World.cell?, hsp] at g0
        exfalso
        split at g0 <;> simp at g0
    obtain ⟨q, hq⟩ := choose_lt each
    exact ⟨fun i => (q i).1, fun i => (q i).2.1, fun i => (q i).2.2, hq⟩
end Go.Proofs.YtpojonfopoobpaaGreat
