/-
  Steps of a region that draws its order: a call by its contract, an append.
-/
import Derived.Test.YtpojonfopoobpaaApp
import Derived.Maps.AppendAt
import Derived.Deep.RegionLaw
namespace Go.Proofs.Ytpojonfopoobpaa
open Go.RowKit

section
variable {P : Program} {ops : Array Oper} {o : Oper} {a : Act} {w : World} {K : Act → World → Prop} {Q : Exit → Act → World → Prop} {E : Prop}
/-- A call of a Go function, as one step. -/
theorem step_call {F : FuncId} {args : Array Value} {R : Value → World → Prop} (hg : o.guard = none) (hex : (execOp a.eval o).run P w = .ok (.enter F args) w) (hc : Calls P F args w fun e w' => ∃ v, e = .returned v ∧ R v w')
    (h : ∀ v w', R v w' → K (a.put o.dst v) w') : if Region.wanted o (yielded ops a.tmps) = true then Oper.wp P o a w K Q else E := by
  rw [if_pos (by simp [Region.wanted, hg])]
  unfold Oper.wp
  rw [hex, Oper.upon_enter]
  exact hc.mono fun e w' ⟨v, e1, h1⟩ => by subst e1; exact h v w' h1
/-- append(s, x...) onto a slice of the call's own, as one step. -/
theorem step_append_sl (hg : o.guard = none) (s x : Operand) (t : TypeId) (ho : o.op = .call { callee := .builtin .append, args := #[s, x], argTypes := #[t, t] })
    (base e : Nat) (k : IntKind) (bytes : Nat) (ht : P.underlying t = some (.slice e)) (hi : (P.info? e).map (fun i => (i.zero, i.size, i.bytes)) = some (some (.int k 0), 1, bytes))
    (sa : Option Addr) (sc n : Nat) (f : Nat → Nat) (hs : a.eval s = .slice sa n sc) (hown : Grow k e w base sa sc n f)
    (ax : Option Addr) (m cx : Nat) (g : Nat → Nat) (hx : a.eval x = .slice ax m cx) (hgx : Sl k w ax m cx g)
    (hm : n + m ≤ 1048576) (hby : bytes ≤ 16) (hbase : base ≤ w.heap.size)
    (h : ∀ a' c' w', Grow k e w' base a' c' (n + m) (fun i => if i < n then f i else g (i - n)) → Upd (fun b => (Value.slice sa n sc).ownBlock = some b) w w' → K (a.put o.dst (.slice a' (n + m) c')) w') :
    if Region.wanted o (yielded ops a.tmps) = true then Oper.wp P o a w K Q else E := by
  rw [if_pos (by simp [Region.wanted, hg])]
  obtain ⟨i, hi, h0, h1, h2⟩ := info_parts hi
  cases ax with
  | some ad =>
    obtain ⟨v', w', hr, ho', hg', _, _⟩ := run_append_own_at (P := P) (w := w) base t o.type e i (.int k 0) 1 bytes ht hi h0 h1 h2 rfl (by omega) _ n _ hown ad m cx ((List.range m).map fun i => Value.int k (g i)) (by simp)
      (by
        intro j u hj
        have hjm : j < m := by
          have := (List.getElem?_eq_some_iff.1 hj).1
          simpa using this
        obtain ⟨b, off, e, hc⟩ := hgx.rd j hjm
        cases e
        rw [Addr.add_mk, hc]
        simpa [hjm] using hj)
      (by
        intro u hu
        obtain ⟨j, _, rfl⟩ := List.mem_map.1 hu
        rfl)
      (by simp only [maxLen]; omega)
      (by
        have : (n + m) * bytes ≤ 1048576 * 16 := Nat.mul_le_mul hm hby
        omega) hbase
    rw [range_append_map] at ho'
    have e2 : ((List.range (n + m)).map fun i => if i < n then Value.int k (f i) else Value.int k (g (i - n))) = (List.range (n + m)).map fun i => Value.int k (((if i < n then f i else g (i - n) : Nat)) : Int) := by
      apply List.map_congr_left
      intro i _
      split <;> rfl
    rw [e2] at ho'
    have hshape : ∃ a' c', v' = .slice a' (n + m) c' := by
      rcases ho'.2 with ⟨h1, h2⟩ | ⟨g, cap, cur, h1, _⟩
      · exact ⟨none, 0, by rw [h1, h2]⟩
      · exact ⟨_, _, h1⟩
    obtain ⟨a', c', rfl⟩ := hshape
    unfold Oper.wp execOp
    simp only [ho, resolve, invoke, builtin, Sem.run_bind, Sem.run_pure, Result.andThen_ok, List.map_toArray, List.map_cons, List.map_nil, hs, hx, hr]
    exact h a' c' w' ho' (Upd.of_grown hg')
  | none =>
    obtain rfl := hgx.nil rfl
    obtain rfl : m = 0 := by have := hgx.le; omega
    unfold Oper.wp execOp
    simp only [ho, resolve, invoke, builtin, Sem.run_bind, Sem.run_pure, Result.andThen_ok, List.map_toArray, List.map_cons, List.map_nil, hs, hx, run_append_nil base t o.type e i 1 ht hi _ n _ hown 0]
    exact h sa sc w (Grow.congr hown fun i hi => (if_pos (show i < n by omega)).symm) (.refl _ _)
end
end Go.Proofs.Ytpojonfopoobpaa
