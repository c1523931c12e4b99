/-
  append onto a slice of the call's own; literals of bytes; what has been appended may be written.
-/
import Derived.Test.YtpojonfopoobpaaLwBase
import Derived.Test.YtpojonfopoobpaaBytesB
namespace Go.Proofs.Ytpojonfopoobpaa
open Go.RowKit

section
variable {P : Program} {w : World} {ops : Array Oper} {rest : List Oper} {o : Oper} {a : Act} {Q : Exit → Act → World → Prop}
theorem run_append_nil (base : Nat) (t ty e : TypeId) (i : TypeInfo) (size : Nat) (ht : P.underlying t = some (.slice e)) (hi : P.info? e = some i)
    (v : Value) (n : Nat) (xs : List Value) (hown : w.ownsRow base e size v n xs) (c : Nat) : (Builtin.append_ #[t, t] ty #[v, .slice none 0 c]).run P w = .ok v w := by
  rcases hown.2 with ⟨rfl, rfl⟩ | ⟨g, cap, cur, rfl, _, _, hnc, _⟩
  · simp [Builtin.append_, run_underlying ht, sizeOf, typeInfo, hi, Builtin.lenOf, Builtin.firstCells]
  · simp [Builtin.append_, run_underlying ht, sizeOf, typeInfo, hi, Builtin.lenOf, Builtin.firstCells, hnc, storeCells]
/-- append(s, x...) onto a slice of the call's own, x nil or not. -/
theorem wpList_append_sl (hgd : o.guard = none) (s x : Operand) (t : TypeId) (ho : o.op = .call { callee := .builtin .append, args := #[s, x], argTypes := #[t, t] })
    (base e : Nat) (k : IntKind) (bytes : Nat) (ht : P.underlying t = some (.slice e)) (hi : (P.info? e).map (fun i => (i.zero, i.size, i.bytes)) = some (some (.int k 0), 1, bytes))
    (sa : Option Addr) (sc n : Nat) (f : Nat → Nat) (hs : a.eval s = .slice sa n sc) (hown : Grow k e w base sa sc n f)
    (ax : Option Addr) (m cx : Nat) (g : Nat → Nat) (hx : a.eval x = .slice ax m cx) (hg : Sl k w ax m cx g)
    (hm : n + m ≤ 1048576) (hby : bytes ≤ 16) (hbase : base ≤ w.heap.size)
    (h : ∀ a' c' w', Grow k e w' base a' c' (n + m) (fun i => if i < n then f i else g (i - n)) → Upd (fun b => (Value.slice sa n sc).ownBlock = some b) w w' →
      wpList P ops Q rest (a.put o.dst (.slice a' (n + m) c')) w') : wpList P ops Q (o :: rest) a w := by
  cases ax with
  | some ad => exact wpList_append_ints hgd s x t ho base e k bytes ht hi sa sc n f hs hown ad m cx g hx hg.rd hm hby hbase h
  | none =>
    obtain rfl := hg.nil rfl
    obtain rfl : m = 0 := by have := hg.le; omega
    obtain ⟨i, hi, h0, h1, h2⟩ := info_parts hi
    refine wpList_plain hgd fun K hK => ?_
    unfold Oper.wp execOp
    simp only [ho, resolve, invoke, builtin, Sem.run_bind, Sem.run_pure, Result.andThen_ok, List.map_toArray, List.map_cons, List.map_nil, hs, hx, run_append_nil base t o.type e i 1 ht hi _ n _ hown 0]
    exact hK _ _ (h sa sc w (Grow.congr hown fun i hi => (if_pos (show i < n by omega)).symm) (.refl _ _))
/-- A guarded operation whose guard lets it through. -/
theorem wpList_unguard (hw : Region.wanted o (yielded ops a.tmps) = true) (h : wpList P ops Q ({ o with guard := none } :: rest) a w) : wpList P ops Q (o :: rest) a w := by
  unfold wpList at h ⊢
  rw [if_pos hw]
  rw [if_pos (by simp [Region.wanted])] at h
  exact h
end
theorem Grow.madeN (k : IntKind) (e : TypeId) (w : World) (base n : Nat) (hb : base ≤ w.heap.size) (hn : n ≤ 1048576) : Grow k e (w.alloc (.cells (madeCells #[.int k 0] n) e)) base (some ⟨w.heap.size, 0, none⟩) n n (fun _ => 0) := by
  have h := World.ownsRow_lit (base := base) (e := e) (size := 1) w (madeCells #[.int k 0] n) n hb (by simp only [maxLen]; omega) (by simp [madeCells])
  have e1 : (madeCells #[.int k 0] n).toList = (List.range n).map fun _ => Value.int k ((0 : Nat) : Int) := by
    refine List.ext_getElem? fun i => ?_
    rw [Array.getElem?_toList]
    by_cases hi : i < n
    · rw [madeCells_at k n i hi]; simp [hi]
    · rw [Array.getElem?_eq_none (by simp [madeCells]; omega), List.getElem?_eq_none (by simp; omega)]
  rw [e1] at h
  exact h
theorem Grow.lit1 (k : IntKind) (e : TypeId) (w : World) (base d : Nat) {z : Int} (hz : z = (d : Nat)) (hb : base ≤ w.heap.size) : Grow k e (w.alloc (.cells #[.int k z] e)) base (some ⟨w.heap.size, 0, none⟩) 1 1 (fun _ => d) := by
  subst hz
  exact World.ownsRow_lit (base := base) (e := e) (size := 1) w #[.int k (d : Nat)] 1 hb (by simp [maxLen]) rfl
theorem Grow.lit0 (k : IntKind) (e : TypeId) (w : World) (base : Nat) (f : Nat → Nat) (hb : base ≤ w.heap.size) : Grow k e (w.alloc (.cells #[] e)) base (some ⟨w.heap.size, 0, none⟩) 0 0 f :=
  World.ownsRow_lit (base := base) (e := e) (size := 1) w #[] 0 hb (by simp [maxLen]) rfl
/-- What has been appended, as a number. -/
theorem Grow.bs {e : TypeId} {w : World} {base : Nat} {a : Option Addr} {c n m : Nat} {f g : Nat → Nat} (h : Grow .u8 e w base a c (n + m) (fun i => if i < n then f i else g (i - n))) (hf : ∀ i, i < n → f i < 256) (hg : ∀ i, i < m → g i < 256) : Bs w a (n + m) c (be f n * 256 ^ m + be g m) := by
  refine ⟨_, fun i hi => ?_, h.sl, ?_⟩
  · show (if i < n then f i else g (i - n)) < 256
    split
    · exact hf i ‹_›
    · exact hg _ (by omega)
  · rw [be_append, be_congr (g := f) (fun i hi => by rw [if_pos hi]), be_congr (f := fun i => if n + i < n then f (n + i) else g (n + i - n)) (g := g) (fun i _ => by rw [if_neg (by omega), Nat.add_sub_cancel_left])]
theorem Bs.lits (w : World) (cs : Array Value) (f : Nat → Nat) (n t : Nat) (hf : ∀ i, i < n → f i < 256) (h : ∀ i, i < n → cs[i]? = some (.int .u8 (f i : Nat))) : Bs (w.alloc (.cells cs t)) (some ⟨w.heap.size, 0, none⟩) n n (be f n) :=
  ⟨f, hf, (Own.new w cs t n f h).sl (Nat.le_refl _), rfl⟩
theorem Grow.open {k : IntKind} {e : TypeId} {w : World} {base : Nat} {a : Option Addr} {c n : Nat} {f : Nat → Nat} (h : Grow k e w base a c n f) (hn : 0 < n) : ∃ g, a = some ⟨g, 0, none⟩ ∧ base ≤ g ∧ g < w.heap.size ∧ Own k w g n f := by
  have hrd := h.rd
  have hblk := h.block
  rcases h.2 with ⟨h1, h2⟩ | ⟨g, cap, cur, h1, h2, h3, h4, h5, h6, h7⟩
  · omega
  · cases h1
    refine ⟨g, rfl, h2, (hblk g rfl).2, fun i hi => ?_, fun i _ => by simp [World.frozen?, h3]⟩
    obtain ⟨b, off, e1, e2⟩ := hrd i hi
    cases e1
    rw [Nat.zero_add] at e2
    exact e2
theorem Own.bs {w : World} {b n : Nat} {f : Nat → Nat} (h : Own .u8 w b n f) {c : Nat} (hc : n ≤ c) (hf : ∀ i, i < n → f i < 256) : Bs w (some ⟨b, 0, none⟩) n c (be f n) := ⟨f, hf, h.sl hc, rfl⟩
theorem be_one (f : Nat → Nat) : be f 1 = f 0 := by simp [be]
theorem be_dec {g : Nat → Nat} {n v P : Nat} (hG : be g (n + 1) = P) (hv : g n = v + 1) : be (fun j => if j = n then v else g j) (n + 1) = P - 1 := by
  have h1 : be g n * 256 + g n = P := hG
  show be _ n * 256 + (if n = n then v else g n) = P - 1
  rw [if_pos rfl, be_congr (g := g) (fun i hi => if_neg (by omega))]
  omega
/-- append([]byte{}, x...). -/
theorem Grow.copied {k : IntKind} {e : TypeId} {w : World} {base : Nat} {a : Option Addr} {c n : Nat} {g : Nat → Nat} (h : Grow k e w base a c (0 + n) (fun i => if i < 0 then 0 else g (i - 0))) : Grow k e w base a c n g := by
  rw [Nat.zero_add] at h
  exact h.congr fun i _ => by rw [if_neg (Nat.not_lt_zero i), Nat.sub_zero]
/-- append(append([]byte{}, x...), 0). -/
theorem Grow.byte0 {e : TypeId} {w : World} {base : Nat} {a : Option Addr} {c n X : Nat} {g : Nat → Nat} (h : Grow .u8 e w base a c (n + 1) (fun i => if i < n then g i else 0)) (hg : ∀ i, i < n → g i < 256) (hG : be g n = X) : Bs w a (n + 1) c (X * 256) := by
  have hB := Grow.bs (m := 1) (g := fun _ => 0) h hg (fun _ _ => by omega)
  have e2 : be g n * 256 ^ 1 + be (fun _ => 0) 1 = X * 256 := by rw [hG]; simp [be]
  rw [e2] at hB
  exact hB
end Go.Proofs.Ytpojonfopoobpaa
