/-
  Laws for the built-in functions append, copy, clear, in the words of Base.
-/
import Derived.Test.YtmbghmjllipbhaaBase
import Derived.Laws.IdiomCopy
import Derived.Lib.SliceRun
namespace Go.Proofs.Ytmbghmjllipbhaa
open Go.RowKit

/-- A slice of integers that the call itself lets grow. -/
def Grow (k : IntKind) (e : TypeId) (w : World) (base : Nat) (a : Option Addr) (c n : Nat) (f : Nat → Nat) : Prop :=
  w.ownsRow base e 1 (.slice a n c) n ((List.range n).map fun i => Value.int k (f i))
theorem Grow.nil (k : IntKind) (e : TypeId) (w : World) (base : Nat) (f : Nat → Nat) : Grow k e w base none 0 0 f := World.ownsRow_nil w base e 1
theorem Grow.made (k : IntKind) (e : TypeId) (w : World) (base : Nat) (cur : Array Value) (cap : Nat) (f : Nat → Nat) (hb : base ≤ w.heap.size) (hm : cap ≤ maxLen) (hs : cur.size = cap) :
    Grow k e (w.alloc (.cells cur e)) base (some ⟨w.heap.size, 0, none⟩) cap 0 f := World.ownsRow_made w cur cap hb hm (by rw [hs, Nat.mul_one])
theorem Grow.rd {k : IntKind} {e : TypeId} {w : World} {base : Nat} {a : Option Addr} {c n : Nat} {f : Nat → Nat} (h : Grow k e w base a c n f) : Rd k w a n f := by
  intro i hi
  rcases h.2 with ⟨h1, h2⟩ | ⟨g, cap, cur, h1, h2⟩
  · omega
  · cases h1
    refine ⟨g, 0, rfl, ?_⟩
    rw [Nat.zero_add, World.ownsRow.cellAt h i (by omega)]
    simp [hi]
theorem Grow.le {k : IntKind} {e : TypeId} {w : World} {base : Nat} {a : Option Addr} {c n : Nat} {f : Nat → Nat} (h : Grow k e w base a c n f) : n ≤ c := by
  rcases h.2 with ⟨h1, h2⟩ | ⟨g, cap, cur, h1, h2, h3, h4, h5⟩
  · omega
  · cases h1; exact h4
theorem Grow.block {k : IntKind} {e : TypeId} {w : World} {base : Nat} {a : Option Addr} {c n : Nat} {f : Nat → Nat} (h : Grow k e w base a c n f) (b : Nat) (hb : (Value.slice a n c).ownBlock = some b) : base ≤ b ∧ b < w.heap.size :=
  World.ownsRow.lt h b hb
theorem Grow.congr {k : IntKind} {e : TypeId} {w : World} {base : Nat} {a : Option Addr} {c n : Nat} {f g : Nat → Nat} (h : Grow k e w base a c n f) (he : ∀ i, i < n → f i = g i) : Grow k e w base a c n g := by
  unfold Grow at *
  rw [show ((List.range n).map fun i => Value.int k (g i)) = ((List.range n).map fun i => Value.int k (f i)) from List.map_congr_left fun i hi => by rw [he i (List.mem_range.1 hi)]]
  exact h
theorem Grow.keep {S : Nat → Prop} {k : IntKind} {e : TypeId} {w w' : World} {base : Nat} {a : Option Addr} {c n : Nat} {f : Nat → Nat} (h : Grow k e w base a c n f) (hu : Upd S w w') (hS : ∀ b, (Value.slice a n c).ownBlock = some b → ¬ S b) : Grow k e w' base a c n f := by
  refine ⟨h.1, ?_⟩
  rcases h.2 with h2 | ⟨g, cap, cur, h1, h2, h3, h4⟩
  · exact .inl h2
  · refine .inr ⟨g, cap, cur, h1, h2, ?_, h4⟩
    rw [hu.block g ?_ (hS g (by rw [h1]; rfl))]
    · exact h3
    · exact (Array.getElem?_eq_some_iff.1 h3).1
theorem Grow.sl {k : IntKind} {e : TypeId} {w : World} {base : Nat} {a : Option Addr} {c n : Nat} {f : Nat → Nat} (h : Grow k e w base a c n f) : Sl k w a n c f :=
  ⟨h.le, h.rd, fun e => by
    subst e
    rcases h.2 with ⟨h1, h2⟩ | ⟨g, cap, cur, h1, _⟩
    · cases h1; rfl
    · cases h1⟩
theorem Grow.keep0 {k : IntKind} {e : TypeId} {w w' : World} {base : Nat} {a : Option Addr} {c n : Nat} {f : Nat → Nat} (h : Grow k e w base a c n f) (hu : Upd0 w w') : Grow k e w' base a c n f := h.keep hu fun _ _ h => h
theorem Rd.one {k : IntKind} {w : World} {z : Int} {e v : Nat} (hz : z = v) : Rd k (w.alloc (.cells #[.int k z] e)) (some ⟨w.heap.size, 0, none⟩) 1 (fun _ => v) := by
  subst hz
  refine .mk fun i hi => ?_
  obtain rfl : i = 0 := by omega
  exact World.cell?_alloc_new _ _ _ _
theorem Upd.of_grown {w w' : World} {r : Option Nat} (h : w.grownBy w' r) : Upd (fun b => r = some b) w w' :=
  ⟨h.os, h.tape, h.output, h.size, fun k hk hS => h.block k hk fun e => hS e.symm⟩

theorem range_append_map (n m : Nat) (F G : Nat → Value) : ((List.range n).map F) ++ ((List.range m).map G) = (List.range (n + m)).map fun i => if i < n then F i else G (i - n) := by
  rw [List.range_add, List.map_append, List.map_map]
  congr 1
  · apply List.map_congr_left
    intro i hi
    rw [if_pos (List.mem_range.1 hi)]
  · apply List.map_congr_left
    intro i _
    simp only [Function.comp]
    rw [if_neg (by omega)]
    congr 1; omega

theorem Addr.add_mk (b o i : Nat) : (⟨b, o, none⟩ : Addr).add i = ⟨b, o + i, none⟩ := by unfold Addr.add; split <;> simp_all

section
variable {P : Program} {w : World} {ops : Array Oper} {rest : List Oper} {o : Oper} {a : Act} {Q : Exit → Act → World → Prop}
/-- append(s, x...) onto a slice of the call's own. -/
theorem wpList_append_ints (hgd : o.guard = none) (s x : Operand) (t : TypeId) (ho : o.op = .call { callee := .builtin .append, args := #[s, x], argTypes := #[t, t] })
    (base e : Nat) (k : IntKind) (bytes : Nat) (ht : P.underlying t = some (.slice e)) (hi : (P.info? e).map (fun i => (i.zero, i.size, i.bytes)) = some (some (.int k 0), 1, bytes))
    (sa : Option Addr) (sc n : Nat) (f : Nat → Nat) (hs : a.eval s = .slice sa n sc) (hown : Grow k e w base sa sc n f)
    (ax : Addr) (m cx : Nat) (g : Nat → Nat) (hx : a.eval x = .slice (some ax) m cx) (hg : Rd k w (some ax) m g)
    (hm : n + m ≤ 1048576) (hby : bytes ≤ 16) (hbase : base ≤ w.heap.size)
    (h : ∀ a' c' w', Grow k e w' base a' c' (n + m) (fun i => if i < n then f i else g (i - n)) → Upd (fun b => (Value.slice sa n sc).ownBlock = some b) w w' →
      wpList P ops Q rest (a.put o.dst (.slice a' (n + m) c')) w') : wpList P ops Q (o :: rest) a w := by
  obtain ⟨i, hi, h0, h1, h2⟩ := info_parts hi
  refine wpList_append_own w hgd s x t ho base e i (.int k 0) 1 bytes ht hi h0 h1 h2 rfl (by omega) _ n _ hs hown ax m cx ((List.range m).map fun i => Value.int k (g i)) hx (by simp) ?_ ?_ ?_ ?_ hbase ?_
  · intro j u hj
    have hjm : j < m := by
      have := (List.getElem?_eq_some_iff.1 hj).1
      simpa using this
    obtain ⟨b, off, e, hc⟩ := hg j hjm
    cases e
    rw [Addr.add_mk, hc]
    simpa [hjm] using hj
  · intro u hu
    obtain ⟨j, _, rfl⟩ := List.mem_map.1 hu
    rfl
  · simp only [maxLen]; omega
  · have : (n + m) * bytes ≤ 1048576 * 16 := Nat.mul_le_mul hm hby
    omega
  · intro v' w' ho' hg' _
    rw [range_append_map] at ho'
    have e : ((List.range (n + m)).map fun i => if i < n then Value.int k (f i) else Value.int k (g (i - n))) = (List.range (n + m)).map fun i => Value.int k (((if i < n then f i else g (i - n) : Nat)) : Int) := by
      apply List.map_congr_left
      intro i _
      split <;> rfl
    rw [e] at ho'
    have hshape : ∃ a' c', v' = .slice a' (n + m) c' := by
      rcases ho'.2 with ⟨h1, h2⟩ | ⟨g, cap, cur, h1, _⟩
      · exact ⟨none, 0, by rw [h1, h2]⟩
      · exact ⟨_, _, h1⟩
    obtain ⟨a', c', rfl⟩ := hshape
    exact h a' c' w' ho' (Upd.of_grown hg')

theorem Upd.setCells {S : Nat → Prop} {x : World} (b : Nat) (hb : b < x.heap.size → S b) : ∀ (vs : List Value) (o : Nat) (w : World), Upd S x w → Upd S x (w.setCells b o vs)
  | [], _, _, h => h
  | v :: r, o, _, h => Upd.setCells b hb r (o + 1) _ (h.setCell ⟨b, o, none⟩ v hb)

theorem own_setCells {k : IntKind} {w : World} {b dn m : Nat} {f g : Nat → Nat} (hown : Own k w b dn f) (_hm : m ≤ dn) :
    Own k (w.setCells b 0 ((List.range m).map fun i => Value.int k (g i))) b dn (fun i => if i < m then g i else f i) := by
  refine ⟨fun i hi => ?_, fun i hi => by rw [World.frozen?_setCells]; exact hown.free i hi⟩
  by_cases h : i < m
  · rw [if_pos h]
    have := World.cell?_setCells_in b ((List.range m).map fun i => Value.int k (g i)) 0 w (fun j hj => by
      rw [Nat.zero_add, hown.cell j (by simp at hj; omega)]; rfl) i (by simpa using h)
    rw [Nat.zero_add] at this
    simpa using this
  · rw [if_neg h, World.cell?_setCells_out b _ 0 w _ (fun j hj => by
      right; simp at hj ⊢; omega)]
    exact hown.cell i hi

/-- copy(d, s) into a row of the call's own. -/
theorem wpList_copy_ints (hgd : o.guard = none) (d s : Operand) (dT sT : TypeId) (ho : o.op = .call { callee := .builtin .copy, args := #[d, s], argTypes := #[dT, sT] })
    (elem : TypeId) (hu : P.underlying dT = some (.slice elem)) (hsz : (P.info? elem).map (·.size) = some 1)
    (k : IntKind) (b dn dc : Nat) (f : Nat → Nat) (hd : a.eval d = .slice (some ⟨b, 0, none⟩) dn dc) (hown : Own k w b dn f)
    (ax : Option Addr) (m cx : Nat) (g : Nat → Nat) (hx : a.eval s = .slice ax m cx) (hg : Rd k w ax m g)
    (h : ∀ w', Own k w' b dn (fun i => if i < m then g i else f i) → (∀ i, dn ≤ i → w'.cell? ⟨b, i, none⟩ = w.cell? ⟨b, i, none⟩) → (∀ x, w'.frozen? x = w.frozen? x) → Upd (fun x => x = b) w w' → wpList P ops Q rest (a.put o.dst (goInt (Nat.min m dn))) w') : wpList P ops Q (o :: rest) a w := by
  have key : ∃ w', (Builtin.copy_ #[dT, sT] o.type #[.slice (some ⟨b, 0, none⟩) dn dc, .slice ax m cx]).run P w = .ok (goInt (Nat.min m dn)) w' ∧ Own k w' b dn (fun i => if i < m then g i else f i) ∧ (∀ i, dn ≤ i → w'.cell? ⟨b, i, none⟩ = w.cell? ⟨b, i, none⟩) ∧ (∀ x, w'.frozen? x = w.frozen? x) ∧ Upd (fun x => x = b) w w' := by
    by_cases h0 : Nat.min m dn = 0
    · refine ⟨w, ?_, hown.congr (fun i hi => ?_), fun _ _ => rfl, fun _ => rfl, .refl _ _⟩
      · rw [h0]; exact run_copy_none w dT sT o.type elem _ _ dn dc m cx hu hsz h0
      · have : m = 0 := by
          have h1 : min m dn = 0 := h0
          omega
        rw [if_neg (by omega)]
    · have hm : 0 < m := by
        rcases Nat.eq_zero_or_pos m with h1 | h1
        · exact absurd (show Nat.min m dn = 0 by rw [h1]; exact Nat.zero_min dn) h0
        · exact h1
      obtain ⟨bx, off, rfl, hc⟩ := hg.open hm
      have hr := run_copy_cells (P := P) w dT sT o.type elem b 0 dn dc ⟨bx, off, none⟩ m cx ((List.range (Nat.min m dn)).map fun i => Value.int k (g i)) hu hsz (by simp)
        (fun j v hj => by
          have hjm : j < Nat.min m dn := by
            have := (List.getElem?_eq_some_iff.1 hj).1
            simpa using this
          have hjm' : j < m := Nat.lt_of_lt_of_le hjm (Nat.min_le_left m dn)
          rw [Addr.add_mk, hc j hjm']
          simpa [hjm] using hj)
        (fun j hj => by
          rw [Nat.zero_add, hown.cell j (Nat.lt_of_lt_of_le (by simpa using hj) (Nat.min_le_right m dn))]; rfl)
        (fun j hj => by rw [Nat.zero_add]; exact hown.free j (Nat.lt_of_lt_of_le (by simpa using hj) (Nat.min_le_right m dn)))
        (fun u hu => by obtain ⟨j, _, rfl⟩ := List.mem_map.1 hu; rfl)
      rw [List.length_map, List.length_range] at hr
      refine ⟨_, hr, (own_setCells hown (Nat.min_le_right m dn)).congr (fun i hi => ?_), fun i hi => ?_, fun x => World.frozen?_setCells _ _ _ _ _, Upd.setCells (S := fun x => x = b) b (fun _ => rfl) _ 0 w (.refl _ _)⟩
      rotate_left
      · refine World.cell?_setCells_out b _ 0 w _ (fun _ _ => ?_)
        right
        simp only [List.length_map, List.length_range, Nat.zero_add]
        exact Nat.le_trans (Nat.min_le_right m dn) hi
      have : (i < Nat.min m dn) ↔ i < m := by
        have e : Nat.min m dn = min m dn := rfl
        rw [e]; omega
      by_cases h' : i < m
      · rw [if_pos h', if_pos (this.2 h')]
      · rw [if_neg h', if_neg (fun h'' => h' (this.1 h''))]
  obtain ⟨w', hr, h1, h2, h3, h4⟩ := key
  refine wpList_plain hgd fun K hK => ?_
  unfold Oper.wp execOp
  simp only [ho, resolve, invoke, builtin, Sem.run_bind, Sem.run_pure, Result.andThen_ok, List.map_toArray, List.map_cons, List.map_nil, hd, hx, hr]
  exact hK _ _ (h w' h1 h2 h3 h4)

/-- clear(d), d a part of a row of the call's own. -/
theorem wpList_clear_ints (hgd : o.guard = none) (d : Operand) (dT : TypeId) (ho : o.op = .call { callee := .builtin .clear, args := #[d], argTypes := #[dT] })
    (elem : TypeId) (k : IntKind) (hu : P.underlying dT = some (.slice elem)) (hz : (P.info? elem).map (fun i => i.zero) = some (some (.int k 0)))
    (b off m cc : Nat) (hd : a.eval d = .slice (some ⟨b, off, none⟩) m cc) (hc : ∀ j, j < m → (w.cell? ⟨b, off + j, none⟩).isSome = true) (hf : ∀ j, j < m → w.frozen? ⟨b, off + j, none⟩ = false)
    (h : ∀ w', (∀ i, i < m → w'.cell? ⟨b, off + i, none⟩ = some (.int k 0)) → (∀ i, (i < off ∨ off + m ≤ i) → w'.cell? ⟨b, i, none⟩ = w.cell? ⟨b, i, none⟩) → (∀ x, w'.frozen? x = w.frozen? x) → Upd (fun x => x = b) w w' → wpList P ops Q rest (a.put o.dst (.tuple #[])) w') : wpList P ops Q (o :: rest) a w := by
  have hv : ∀ w, (zeroValue elem).run P w = .ok (.int k 0) w := by
    intro w
    cases hq : P.info? elem with
    | none => simp [hq] at hz
    | some i =>
      have hi : i.zero = some (.int k 0) := by simpa [hq] using hz
      simp [zeroValue, typeInfo, hq, hi]
  have key : ∃ w', (Builtin.clear_ #[dT] o.type #[.slice (some ⟨b, off, none⟩) m cc]).run P w = .ok (.tuple #[]) w' ∧ (∀ i, i < m → w'.cell? ⟨b, off + i, none⟩ = some (.int k 0)) ∧ (∀ i, (i < off ∨ off + m ≤ i) → w'.cell? ⟨b, i, none⟩ = w.cell? ⟨b, i, none⟩) ∧ (∀ x, w'.frozen? x = w.frozen? x) ∧ Upd (fun x => x = b) w w' := by
    rcases Nat.eq_zero_or_pos m with h0 | h0
    · subst h0
      refine ⟨w, ?_, fun i hi => absurd hi (Nat.not_lt_zero i), fun _ _ => rfl, fun _ => rfl, .refl _ _⟩
      simp [Builtin.clear_, run_underlying hu]
    · refine ⟨_, Lib.run_clear_slice w dT elem o.type (.int k 0) hu hv rfl rfl b off m cc h0 hc hf, fun i hi => ?_, fun i hi => ?_, fun x => World.frozen?_setCells _ _ _ _ _, Upd.setCells (S := fun x => x = b) b (fun _ => rfl) _ off w (.refl _ _)⟩
      · have := World.cell?_setCells_in b (List.replicate m (Value.int k 0)) off w (fun j hj => hc j (by simpa using hj)) i (by simpa using hi)
        simpa using this
      · refine World.cell?_setCells_out b _ off w _ (fun _ _ => ?_)
        simpa using hi
  obtain ⟨w', hr, h1, h2, h3, h4⟩ := key
  refine wpList_plain hgd fun K hK => ?_
  unfold Oper.wp execOp
  simp only [ho, resolve, invoke, builtin, Sem.run_bind, Sem.run_pure, Result.andThen_ok, List.map_toArray, List.map_cons, List.map_nil, hd, hr]
  exact hK _ _ (h w' h1 h2 h3 h4)
end
end Go.Proofs.Ytmbghmjllipbhaa
