/-
  What the ring laws share: BitLen, comparisons by a bool, powers of whole numbers, literals of two bytes, inverses of products.
-/
import Derived.Test.YtiiihhohfgepfaaLwIn
import Derived.Test.YtiiihhohfgepfaaImpD
import Derived.Test.YtiiihhohfgepfaaSpecL
import Derived.Test.YtiiihhohfgepfaaRing
namespace Go.Proofs.Ytiiihhohfgepfaa
open Go.RowKit

theorem zero_b {a : Option Addr} {n c N : Nat} {b : Bool} {w : World} (hn : n ≤ 1048576) (h : Bs w a n c N) (hb : decide (N = 0) = b) : Calls Try.prog 32 #[.slice a n c] w fun e w' => e = .returned (.bool b) ∧ Upd0 w w' :=
  (zero_bs hn h).mono fun _ _ ⟨h1, h2⟩ => ⟨by rw [h1, hb], by rw [h2]; exact .refl _ _⟩
theorem odd_b {a : Option Addr} {n c N : Nat} {b : Bool} {w : World} (hn : n ≤ 1048576) (h : Bs w a n c N) (hb : decide (N % 2 = 1) = b) : Calls Try.prog 37 #[.slice a n c] w fun e w' => e = .returned (.bool b) ∧ Upd0 w w' :=
  (odd_bs hn h).mono fun _ _ ⟨h1, h2⟩ => ⟨by rw [h1, hb], by rw [h2]; exact .refl _ _⟩
theorem same_b {a a' : Option Addr} {n c c' N N' : Nat} {b : Bool} {w : World} (hn : n ≤ 1048576) (h : Bs w a n c N) (h' : Bs w a' n c' N') (hb : decide (N = N') = b) :
    Calls Try.prog 23 #[.slice a n c, .slice a' n c'] w fun e w' => e = .returned (.bool b) ∧ Upd0 w w' :=
  (same_bs hn h h').mono fun _ _ ⟨h1, h2⟩ => ⟨by rw [h1, ← hb]; simp, h2⟩
theorem ipow_mul (a : Int) (m n : Nat) : a ^ (m * n) = (a ^ m) ^ n := by
  induction n with
  | zero => simp
  | succ n ih => rw [Nat.mul_succ, Int.pow_add, ih, Int.pow_succ]
theorem imul_pow (a b : Int) (n : Nat) : (a * b) ^ n = a ^ n * b ^ n := by
  induction n with
  | zero => simp
  | succ n ih => rw [Int.pow_succ, Int.pow_succ, Int.pow_succ, ih]; grind
theorem Bs.lit2 (w : World) (d d' : Nat) (hd : d < 256) (hd' : d' < 256) (t : Nat) : Bs (w.alloc (.cells #[.int .u8 (d : Nat), .int .u8 (d' : Nat)] t)) (some ⟨w.heap.size, 0, none⟩) 2 2 (d * 256 + d') := by
  refine ⟨fun i => if i = 0 then d else d', fun i _ => by show (if i = 0 then d else d') < 256; split <;> assumption, ⟨Nat.le_refl _, .mk fun i hi => ?_, fun e => by cases e⟩, by simp [be]⟩
  rw [World.cell?_alloc_new]
  rcases (show i = 0 ∨ i = 1 by omega) with h | h <;> subst h <;> rfl
/-- The inverse of a product. -/
theorem isInv_mul {x y m X Y : Nat} (hx : IsInv x m X) (hy : IsInv y m Y) : IsInv (x * y % m) m (X * Y % m) where
  lt := Nat.mod_lt _ (by have := hx.lt; omega)
  eq := by
    have e : X * Y % m * (x * y % m) % m = (X * x) * (Y * y) % m := by
      rw [← Nat.mul_mod]
      congr 1
      grind
    rw [e, Nat.mul_mod, hx.eq, hy.eq, ← Nat.mul_mod, Nat.one_mul]
/-- A factor of an invertible number is invertible. -/
theorem gcd_of_mul {x y m : Nat} (_hm : 1 < m) (h : Nat.gcd (x * y % m) m = 1) : Nat.gcd x m = 1 ∧ Nat.gcd y m = 1 := by
  have h1 : Nat.gcd (x * y) m = 1 := by rw [Nat.gcd_comm, Nat.gcd_rec, h]
  have h2 : Nat.gcd x m ∣ 1 := by rw [← h1]; exact Nat.dvd_gcd (Nat.dvd_trans (Nat.gcd_dvd_left x m) (Nat.dvd_mul_right x y)) (Nat.gcd_dvd_right x m)
  have h3 : Nat.gcd y m ∣ 1 := by rw [← h1]; exact Nat.dvd_gcd (Nat.dvd_trans (Nat.gcd_dvd_left y m) (Nat.dvd_mul_left y x)) (Nat.gcd_dvd_right y m)
  exact ⟨Nat.dvd_one.1 h2, Nat.dvd_one.1 h3⟩

section
variable {P : Program} {w : World} {ops : Array Oper} {rest : List Oper} {o : Oper} {a : Act} {Q : Exit → Act → World → Prop}
theorem run_append_nil (base : Nat) (t ty e : TypeId) (i : TypeInfo) (size : Nat) (ht : P.underlying t = some (.slice e)) (hi : P.info? e = some i)
    (v : Value) (n : Nat) (xs : List Value) (hown : w.ownsRow base e size v n xs) (c : Nat) : (Builtin.append_ #[t, t] ty #[v, .slice none 0 c]).run P w = .ok v w := by
  rcases hown.2 with ⟨rfl, rfl⟩ | ⟨g, cap, cur, rfl, _, _, hnc, _⟩
  · simp [Builtin.append_, run_underlying ht, sizeOf, typeInfo, hi, Builtin.lenOf, Builtin.firstCells]
  · simp [Builtin.append_, run_underlying ht, sizeOf, typeInfo, hi, Builtin.lenOf, Builtin.firstCells, hnc, storeCells]
/-- append(s, x...) onto a slice of the call's own, x nil or not. -/
theorem wpList_append_sl (hgd : o.guard = none) (s x : Operand) (t : TypeId) (ho : o.op = .call { callee := .builtin .append, args := #[s, x], argTypes := #[t, t] })
    (base e : Nat) (k : IntKind) (bytes : Nat) (ht : P.underlying t = some (.slice e)) (hi : (P.info? e).map (fun i => (i.zero, i.size, i.bytes)) = some (some (.int k 0), 1, bytes))
    (sa : Option Addr) (sc n : Nat) (f : Nat → Nat) (hs : a.eval s = .slice sa n sc) (hown : Grow k e w base sa sc n f)
    (ax : Option Addr) (m cx : Nat) (g : Nat → Nat) (hx : a.eval x = .slice ax m cx) (hg : Sl k w ax m cx g)
    (hm : n + m ≤ 1048576) (hby : bytes ≤ 16) (hbase : base ≤ w.heap.size)
    (h : ∀ a' c' w', Grow k e w' base a' c' (n + m) (fun i => if i < n then f i else g (i - n)) → Upd (fun b => (Value.slice sa n sc).ownBlock = some b) w w' →
      wpList P ops Q rest (a.put o.dst (.slice a' (n + m) c')) w') : wpList P ops Q (o :: rest) a w := by
  cases ax with
  | some ad => exact wpList_append_ints hgd s x t ho base e k bytes ht hi sa sc n f hs hown ad m cx g hx hg.rd hm hby hbase h
  | none =>
    obtain rfl := hg.nil rfl
    obtain rfl : m = 0 := by have := hg.le; omega
    obtain ⟨i, hi, h0, h1, h2⟩ := info_parts hi
    refine wpList_plain hgd fun K hK => ?_
    unfold Oper.wp execOp
    simp only [ho, resolve, invoke, builtin, Sem.run_bind, Sem.run_pure, Result.andThen_ok, List.map_toArray, List.map_cons, List.map_nil, hs, hx, run_append_nil base t o.type e i 1 ht hi _ n _ hown 0]
    exact hK _ _ (h sa sc w (Grow.congr hown fun i hi => (if_pos (show i < n by omega)).symm) (.refl _ _))
end
theorem Grow.madeN (k : IntKind) (e : TypeId) (w : World) (base n : Nat) (hb : base ≤ w.heap.size) (hn : n ≤ 1048576) : Grow k e (w.alloc (.cells (madeCells #[.int k 0] n) e)) base (some ⟨w.heap.size, 0, none⟩) n n (fun _ => 0) := by
  have h := World.ownsRow_lit (base := base) (e := e) (size := 1) w (madeCells #[.int k 0] n) n hb (by simp only [maxLen]; omega) (by simp [madeCells])
  have e1 : (madeCells #[.int k 0] n).toList = (List.range n).map fun _ => Value.int k ((0 : Nat) : Int) := by
    refine List.ext_getElem? fun i => ?_
    rw [Array.getElem?_toList]
    by_cases hi : i < n
    · rw [madeCells_at k n i hi]; simp [hi]
    · rw [Array.getElem?_eq_none (by simp [madeCells]; omega), List.getElem?_eq_none (by simp; omega)]
  rw [e1] at h
  exact h
theorem Grow.lit1 (k : IntKind) (e : TypeId) (w : World) (base d : Nat) {z : Int} (hz : z = (d : Nat)) (hb : base ≤ w.heap.size) : Grow k e (w.alloc (.cells #[.int k z] e)) base (some ⟨w.heap.size, 0, none⟩) 1 1 (fun _ => d) := by
  subst hz
  exact World.ownsRow_lit (base := base) (e := e) (size := 1) w #[.int k (d : Nat)] 1 hb (by simp [maxLen]) rfl
theorem Grow.lit0 (k : IntKind) (e : TypeId) (w : World) (base : Nat) (f : Nat → Nat) (hb : base ≤ w.heap.size) : Grow k e (w.alloc (.cells #[] e)) base (some ⟨w.heap.size, 0, none⟩) 0 0 f :=
  World.ownsRow_lit (base := base) (e := e) (size := 1) w #[] 0 hb (by simp [maxLen]) rfl
/-- What has been appended, as a number. -/
theorem Grow.bs {e : TypeId} {w : World} {base : Nat} {a : Option Addr} {c n m : Nat} {f g : Nat → Nat} (h : Grow .u8 e w base a c (n + m) (fun i => if i < n then f i else g (i - n))) (hf : ∀ i, i < n → f i < 256) (hg : ∀ i, i < m → g i < 256) : Bs w a (n + m) c (be f n * 256 ^ m + be g m) := by
  refine ⟨_, fun i hi => ?_, h.sl, ?_⟩
  · show (if i < n then f i else g (i - n)) < 256
    split
    · exact hf i ‹_›
    · exact hg _ (by omega)
  · rw [be_append, be_congr (g := f) (fun i hi => by rw [if_pos hi]), be_congr (f := fun i => if n + i < n then f (n + i) else g (n + i - n)) (g := g) (fun i _ => by rw [if_neg (by omega), Nat.add_sub_cancel_left])]
end Go.Proofs.Ytiiihhohfgepfaa
