/-
  The words in which the contracts speak of memory: what a call may have written (Upd), a slice that is read (Rd), a row of cells that is written (Own), a number of the package (NatAt).
  Laws for the built-in functions append, copy, clear, in the words of Base.
  The operations on uint (64 bits) as functions on plain numbers, each behind a name: the walk then leaves them as they stand.
  The contracts of the reference's small functions: trimmed, bits, octet, octets, short, less, even.
  The contract of the reference's read: the number of bytes.
  Contracts of the reference's divided and ShiftRight.
  Contracts: slices.Clone of bytes; impl.trimmed; ..
-/
import Derived.Test.YtpojonfopoobpaaPlain
import Derived.Test.YtpojonfopoobpaaRows
import Derived.WalkKit
import Derived.WalkLawsBesides
import Derived.BigQuiet
import Derived.BigRegion
import Derived.Deep.QuietTactic
import Derived.Deep.Quiet
import Derived.Deep.LoopGhost
import Derived.StillTailTactics
import Derived.Lib.Hide
import Derived.Laws.IdiomCopy
import Derived.Lib.SliceRun
namespace Go.Proofs.Ytpojonfopoobpaa
open Go.RowKit

/-- A sum that fits stays as it is. -/
theorem w64 (x : Int) (h1 : -9223372036854775808 ≤ x) (h2 : x ≤ 9223372036854775807) : IntKind.i64.wrap x = x := IntWalk.i64_in x ⟨h1, h2⟩

/-- Of the blocks that were there only those of S may have changed. -/
structure Upd (S : Nat → Prop) (w w' : World) : Prop where
  os : w'.os = w.os
  tape : w'.tape = w.tape
  output : w'.output = w.output
  size : w.heap.size ≤ w'.heap.size
  block : ∀ k, k < w.heap.size → ¬ S k → w'.heap[k]? = w.heap[k]?

/-- Nothing that was there has changed. -/
abbrev Upd0 (w w' : World) : Prop := Upd (fun _ => False) w w'

theorem Upd.refl (S : Nat → Prop) (w : World) : Upd S w w := ⟨rfl, rfl, rfl, Nat.le_refl _, fun _ _ _ => rfl⟩
theorem Upd.trans {S : Nat → Prop} {a b c : World} (h : Upd S a b) (k : Upd S b c) : Upd S a c :=
  ⟨k.os.trans h.os, k.tape.trans h.tape, k.output.trans h.output, Nat.le_trans h.size k.size,
   fun i hi hs => (k.block i (Nat.lt_of_lt_of_le hi h.size) hs).trans (h.block i hi hs)⟩
/-- A second call whose own blocks are new, or of S. -/
theorem Upd.then {S T : Nat → Prop} {a b c : World} (h : Upd S a b) (k : Upd T b c) (hT : ∀ i, i < a.heap.size → T i → S i) : Upd S a c :=
  ⟨k.os.trans h.os, k.tape.trans h.tape, k.output.trans h.output, Nat.le_trans h.size k.size,
   fun i hi hs => (k.block i (Nat.lt_of_lt_of_le hi h.size) (fun ht => hs (hT i hi ht))).trans (h.block i hi hs)⟩
theorem Upd.mono {S T : Nat → Prop} {a b : World} (h : Upd S a b) (hST : ∀ i, i < a.heap.size → S i → T i) : Upd T a b :=
  ⟨h.os, h.tape, h.output, h.size, fun i hi hs => h.block i hi fun hS => hs (hST i hi hS)⟩
theorem Upd.drew {S : Nat → Prop} {a w : World} (h : Upd S a w) : Upd S a w.drew := ⟨h.os, h.tape, h.output, h.size, h.block⟩
theorem Upd.drewN {S : Nat → Prop} {a w : World} (h : Upd S a w) (n : Nat) : Upd S a (w.drewN n) := ⟨h.os, h.tape, h.output, h.size, h.block⟩
theorem Upd.of_drew {S : Nat → Prop} {a w : World} (h : Upd S a.drew w) : Upd S a w := ⟨h.os, h.tape, h.output, h.size, h.block⟩
theorem Upd.of_drewN {S : Nat → Prop} {a w : World} {n : Nat} (h : Upd S (a.drewN n) w) : Upd S a w := ⟨h.os, h.tape, h.output, h.size, h.block⟩
theorem Upd.alloc {S : Nat → Prop} {a w : World} (h : Upd S a w) (o : Obj) : Upd S a (w.alloc o) :=
  h.then (T := fun _ => False) ⟨rfl, rfl, rfl, by simp, fun k hk _ => Below.heap_alloc _ _ _ hk⟩ (fun _ _ h => h.elim)
theorem Upd.setCell {S : Nat → Prop} {a w : World} (h : Upd S a w) (p : Addr) (u : Value) (hp : p.block < a.heap.size → S p.block) : Upd S a (w.setCell p u) :=
  h.then (T := fun k => k = p.block) ⟨rfl, rfl, rfl, by simp, fun k _ hk => Below.heap_setCell _ _ _ _ hk⟩ (fun _ hi h => by subst h; exact hp hi)
theorem Upd.below {a b : World} (h : Upd0 a b) : Below a.heap.size a b := ⟨h.os, h.tape, h.output, h.size, fun k hk => h.block k hk id⟩
theorem Upd.of_below {a b : World} (h : Below a.heap.size a b) : Upd0 a b := ⟨h.os, h.tape, h.output, h.size, fun k hk _ => h.block k hk⟩
theorem Upd.cell {S : Nat → Prop} {a b : World} (h : Upd S a b) {p : Addr} (hs : ¬ S p.block) {v : Value} (hc : a.cell? p = some v) : b.cell? p = some v :=
  (World.cell?_of_block (w := a) (h.block p.block (World.block_lt_of_cell? _ _ hc) hs)).trans hc
theorem Upd.frozen {S : Nat → Prop} {a b : World} (h : Upd S a b) {p : Addr} (hs : ¬ S p.block) (hp : p.block < a.heap.size) : b.frozen? p = a.frozen? p :=
  World.frozen?_of_block (w := a) (h.block p.block hp hs)

/-- The n elements of a slice that begins at a are f 0, f 1, .. -/
def Rd (k : IntKind) (w : World) (a : Option Addr) (n : Nat) (f : Nat → Nat) : Prop :=
  ∀ i, i < n → ∃ b off, a = some ⟨b, off, none⟩ ∧ w.cell? ⟨b, off + i, none⟩ = some (.int k (f i))
theorem Rd.open {k : IntKind} {w : World} {a : Option Addr} {n : Nat} {f : Nat → Nat} (h : Rd k w a n f) (hn : 0 < n) :
    ∃ b off, a = some ⟨b, off, none⟩ ∧ ∀ i, i < n → w.cell? ⟨b, off + i, none⟩ = some (.int k (f i)) := by
  obtain ⟨b, off, rfl, _⟩ := h 0 hn
  refine ⟨b, off, rfl, fun i hi => ?_⟩
  obtain ⟨b', off', e, hc⟩ := h i hi
  cases e
  exact hc
theorem Rd.nil {k : IntKind} (w : World) (a : Option Addr) (f : Nat → Nat) : Rd k w a 0 f := fun i hi => absurd hi (Nat.not_lt_zero i)
theorem Rd.mk {k : IntKind} {w : World} {b off n : Nat} {f : Nat → Nat} (h : ∀ i, i < n → w.cell? ⟨b, off + i, none⟩ = some (.int k (f i))) : Rd k w (some ⟨b, off, none⟩) n f :=
  fun i hi => ⟨b, off, rfl, h i hi⟩
theorem Rd.congr {k : IntKind} {w : World} {a : Option Addr} {n : Nat} {f g : Nat → Nat} (h : Rd k w a n f) (e : ∀ i, i < n → f i = g i) : Rd k w a n g :=
  fun i hi => by obtain ⟨b, off, h1, h2⟩ := h i hi; exact ⟨b, off, h1, by rw [h2, e i hi]⟩
theorem Rd.le {k : IntKind} {w : World} {a : Option Addr} {n m : Nat} {f : Nat → Nat} (h : Rd k w a n f) (hm : m ≤ n) : Rd k w a m f :=
  fun i hi => h i (Nat.lt_of_lt_of_le hi hm)
theorem Rd.keep {k : IntKind} {w w' : World} {a : Option Addr} {n : Nat} {f : Nat → Nat} (h : Rd k w a n f) (hu : Upd0 w w') : Rd k w' a n f :=
  fun i hi => by obtain ⟨b, off, h1, h2⟩ := h i hi; exact ⟨b, off, h1, hu.cell (p := ⟨b, off + i, none⟩) id h2⟩
theorem Rd.keepS {S : Nat → Prop} {k : IntKind} {w w' : World} {b off : Nat} {n : Nat} {f : Nat → Nat} (h : Rd k w (some ⟨b, off, none⟩) n f) (hu : Upd S w w') (hb : ¬ S b) : Rd k w' (some ⟨b, off, none⟩) n f :=
  fun i hi => by obtain ⟨b', off', h1, h2⟩ := h i hi; cases h1; exact ⟨b, off, rfl, hu.cell (p := ⟨b, off + i, none⟩) hb h2⟩
/-- The part of a slice behind its first m elements. -/
theorem Rd.drop {k : IntKind} {w : World} {b off n m : Nat} {f : Nat → Nat} (h : Rd k w (some ⟨b, off, none⟩) n f) (_hm : m ≤ n) : Rd k w (some ⟨b, off + m, none⟩) (n - m) (fun i => f (m + i)) :=
  fun i hi => by
    obtain ⟨b', off', h1, h2⟩ := h (m + i) (by omega)
    cases h1
    exact ⟨b, off + m, rfl, by rw [Nat.add_assoc]; exact h2⟩

/-- The first n cells of block b are f 0, f 1, .., and may be written. -/
structure Own (k : IntKind) (w : World) (b n : Nat) (f : Nat → Nat) : Prop where
  cell : ∀ i, i < n → w.cell? ⟨b, i, none⟩ = some (.int k (f i))
  free : ∀ i, i < n → w.frozen? ⟨b, i, none⟩ = false
theorem Own.congr {k : IntKind} {w : World} {b n : Nat} {f g : Nat → Nat} (h : Own k w b n f) (e : ∀ i, i < n → f i = g i) : Own k w b n g :=
  ⟨fun i hi => by rw [h.cell i hi, e i hi], h.free⟩
theorem Own.le {k : IntKind} {w : World} {b n m : Nat} {f : Nat → Nat} (h : Own k w b n f) (hm : m ≤ n) : Own k w b m f :=
  ⟨fun i hi => h.cell i (Nat.lt_of_lt_of_le hi hm), fun i hi => h.free i (Nat.lt_of_lt_of_le hi hm)⟩
theorem Own.keep {S : Nat → Prop} {k : IntKind} {w w' : World} {b n : Nat} {f : Nat → Nat} (h : Own k w b n f) (hu : Upd S w w') (hb : ¬ S b) : Own k w' b n f :=
  ⟨fun i hi => hu.cell (p := ⟨b, i, none⟩) hb (h.cell i hi),
   fun i hi => (hu.frozen (p := ⟨b, i, none⟩) hb (World.block_lt_of_cell? _ _ (h.cell i hi))).trans (h.free i hi)⟩
theorem Own.keep0 {k : IntKind} {w w' : World} {b n : Nat} {f : Nat → Nat} (h : Own k w b n f) (hu : Upd0 w w') : Own k w' b n f := h.keep hu id
theorem Own.drew {k : IntKind} {w : World} {b n : Nat} {f : Nat → Nat} (h : Own k w b n f) : Own k w.drew b n f := ⟨h.cell, h.free⟩
theorem Own.drewN {k : IntKind} {w : World} {b n : Nat} {f : Nat → Nat} (h : Own k w b n f) (j : Nat) : Own k (w.drewN j) b n f := ⟨h.cell, h.free⟩
theorem Own.set {k : IntKind} {w : World} {b n : Nat} {f : Nat → Nat} (h : Own k w b n f) {i : Nat} (hi : i < n) (v : Nat) :
    Own k (w.setCell ⟨b, i, none⟩ (.int k v)) b n (fun j => if j = i then v else f j) := by
  refine ⟨fun j hj => ?_, fun j hj => by simpa using h.free j hj⟩
  by_cases e : j = i
  · subst e; rw [if_pos rfl]; exact World.cell?_setCell_same _ _ _ (h.cell j hj)
  · rw [if_neg e, World.cell?_setCell_other _ _ _ _ (by intro h'; cases h'; exact e rfl)]; exact h.cell j hj
theorem Own.rd {k : IntKind} {w : World} {b n : Nat} {f : Nat → Nat} (h : Own k w b n f) : Rd k w (some ⟨b, 0, none⟩) n f :=
  .mk fun i hi => by rw [Nat.zero_add]; exact h.cell i hi
theorem Own.lt {k : IntKind} {w : World} {b n : Nat} {f : Nat → Nat} (h : Own k w b n f) (hn : 0 < n) : b < w.heap.size :=
  World.block_lt_of_cell? _ _ (h.cell 0 hn)
theorem Own.new {k : IntKind} (w : World) (c : Array Value) (t n : Nat) (f : Nat → Nat) (h : ∀ i, i < n → c[i]? = some (.int k (f i))) : Own k (w.alloc (.cells c t)) w.heap.size n f :=
  ⟨fun i hi => by rw [World.cell?_alloc_new]; exact h i hi, fun i _ => by simp⟩

/-- make of a slice of integers. -/
theorem run_make_ints {P : Program} {t e : TypeId} {k : IntKind} {bytes : Nat} (ht : P.underlying t = some (.slice e)) (hi : (P.info? e).map (fun i => (i.zero, i.size, i.bytes)) = some (some (.int k 0), 1, bytes))
    (n c : Nat) (hn : n ≤ c) (hc : c ≤ 1048576) (hbytes : bytes ≤ 16) (w : World) :
    (Instr.makeSlice t (.int .i64 n) (.int .i64 c)).run P w = .ok (.slice (some ⟨w.heap.size, 0, none⟩) n c) (w.alloc (.cells (madeCells #[.int k 0] c) e)) := by
  obtain ⟨i, hi, h0, h1, h2⟩ := info_parts hi
  have hb : (i.bytes : Int) * (c : Int) ≤ 281474976710656 := by
    rw [h2]
    have h3 : bytes * c ≤ 16 * 1048576 := Nat.mul_le_mul hbytes hc
    have h4 : ((bytes * c : Nat) : Int) ≤ 281474976710656 := by omega
    rwa [Int.natCast_mul] at h4
  have h := run_make (P := P) w t e i (.int k 0) ht hi h0 .i64 .i64 n c (by omega) (by omega) hb (by omega)
  rw [h1] at h
  simpa [Value.cells] using h
theorem madeCells_at (k : IntKind) (c i : Nat) (h : i < c) : (madeCells #[.int k 0] c)[i]? = some (.int k ((0 : Nat) : Int)) := by
  simp [madeCells, h, Nat.mod_one]
theorem Own.made (k : IntKind) (w : World) (c e : Nat) : Own k (w.alloc (.cells (madeCells #[.int k 0] c) e)) w.heap.size c (fun _ => 0) :=
  .new w _ e c _ fun i hi => madeCells_at k c i hi

/-- A slice of n elements f 0, f 1, .. and capacity c. -/
structure Sl (k : IntKind) (w : World) (a : Option Addr) (n c : Nat) (f : Nat → Nat) : Prop where
  le : n ≤ c
  rd : Rd k w a n f
  nil : a = none → c = 0
theorem Sl.keep {k : IntKind} {w w' : World} {a : Option Addr} {n c : Nat} {f : Nat → Nat} (h : Sl k w a n c f) (hu : Upd0 w w') : Sl k w' a n c f := ⟨h.le, h.rd.keep hu, h.nil⟩
theorem Sl.congr {k : IntKind} {w : World} {a : Option Addr} {n c : Nat} {f g : Nat → Nat} (h : Sl k w a n c f) (e : ∀ i, i < n → f i = g i) : Sl k w a n c g := ⟨h.le, h.rd.congr e, h.nil⟩
theorem Own.sl {k : IntKind} {w : World} {b n : Nat} {f : Nat → Nat} (h : Own k w b n f) {c : Nat} (hc : n ≤ c) : Sl k w (some ⟨b, 0, none⟩) n c f := ⟨hc, h.rd, fun e => by cases e⟩
theorem Sl.empty (k : IntKind) (w : World) (f : Nat → Nat) : Sl k w none 0 0 f := ⟨Nat.le_refl _, .nil _ _ _, fun _ => rfl⟩

/-- The base of the package's limbs. -/
def W64 : Nat := 18446744073709551616
theorem W64_eq : W64 = 2 ^ 64 := rfl
theorem W64_pos : 0 < W64 := by decide
theorem limb_lt (X i : Nat) : dg W64 X i < 18446744073709551616 := dg_lt W64_pos X i
/-- At p lies a number of the package: n limbs at the head of block b, which has c cells; X is the number. -/
structure NatAt (w : World) (p b c n X : Nat) : Prop where
  hd : w.cell? ⟨p, 0, none⟩ = some (.slice (some ⟨b, 0, none⟩) n c)
  hf : w.frozen? ⟨p, 0, none⟩ = false
  le : n ≤ c
  sm : c ≤ 65536
  lt : X < W64 ^ n
  own : Own .u64 w b n (dg W64 X)
  room : ∀ i, i < c → (w.cell? ⟨b, i, none⟩).isSome = true
  free : ∀ i, i < c → w.frozen? ⟨b, i, none⟩ = false
  ne : p ≠ b
  hb : b < w.heap.size
theorem NatAt.hp {w : World} {p b c n X : Nat} (h : NatAt w p b c n X) : p < w.heap.size := World.block_lt_of_cell? _ _ h.hd
theorem NatAt.keep {S : Nat → Prop} {w w' : World} {p b c n X : Nat} (h : NatAt w p b c n X) (hu : Upd S w w') (h1 : ¬ S p) (h2 : ¬ S b) : NatAt w' p b c n X where
  hd := hu.cell (p := ⟨p, 0, none⟩) h1 h.hd
  hf := (hu.frozen (p := ⟨p, 0, none⟩) h1 h.hp).trans h.hf
  le := h.le
  sm := h.sm
  lt := h.lt
  own := h.own.keep hu h2
  room := fun i hi => by
    obtain ⟨v, hv⟩ := Option.isSome_iff_exists.1 (h.room i hi)
    rw [hu.cell (p := ⟨b, i, none⟩) h2 hv]; rfl
  free := fun i hi => (hu.frozen (p := ⟨b, i, none⟩) h2 h.hb).trans (h.free i hi)
  ne := h.ne
  hb := Nat.lt_of_lt_of_le h.hb hu.size
theorem NatAt.keep0 {w w' : World} {p b c n X : Nat} (h : NatAt w p b c n X) (hu : Upd0 w w') : NatAt w' p b c n X := h.keep hu id id
theorem NatAt.drewN {w : World} {p b c n X : Nat} (h : NatAt w p b c n X) (k : Nat) : NatAt (w.drewN k) p b c n X := h.keep0 ((Upd.refl _ _).drewN k)
theorem NatAt.drew {w : World} {p b c n X : Nat} (h : NatAt w p b c n X) : NatAt w.drew p b c n X := h.keep0 ((Upd.refl _ _).drew)
/-- The block of a number that may have got new memory. -/
def NewB (w : World) (b b' : Nat) : Prop := b' = b ∨ w.heap.size ≤ b'

/-- Bytes are returned: n of them. -/
def RetBytes (w : World) (n : Nat) (f : Nat → Nat) (e : Ending) (w' : World) : Prop :=
  ∃ a c, e = .returned (.slice a n c) ∧ Sl .u8 w' a n c f ∧ Upd0 w w'
/-- A number of the reference is returned. -/
def RetNum (w : World) (N : Nat) (e : Ending) (w' : World) : Prop :=
  ∃ a c, e = .returned (.slice a (nd N) c) ∧ Sl .i64 w' a (nd N) c (dg 65536 N) ∧ Upd0 w w'
end Go.Proofs.Ytpojonfopoobpaa

namespace Go.Proofs.Ytpojonfopoobpaa
open Go.RowKit

/-- A slice of integers that the call itself lets grow. -/
def Grow (k : IntKind) (e : TypeId) (w : World) (base : Nat) (a : Option Addr) (c n : Nat) (f : Nat → Nat) : Prop :=
  w.ownsRow base e 1 (.slice a n c) n ((List.range n).map fun i => Value.int k (f i))
theorem Grow.nil (k : IntKind) (e : TypeId) (w : World) (base : Nat) (f : Nat → Nat) : Grow k e w base none 0 0 f := World.ownsRow_nil w base e 1
theorem Grow.made (k : IntKind) (e : TypeId) (w : World) (base : Nat) (cur : Array Value) (cap : Nat) (f : Nat → Nat) (hb : base ≤ w.heap.size) (hm : cap ≤ maxLen) (hs : cur.size = cap) :
    Grow k e (w.alloc (.cells cur e)) base (some ⟨w.heap.size, 0, none⟩) cap 0 f := World.ownsRow_made w cur cap hb hm (by rw [hs, Nat.mul_one])
theorem Grow.rd {k : IntKind} {e : TypeId} {w : World} {base : Nat} {a : Option Addr} {c n : Nat} {f : Nat → Nat} (h : Grow k e w base a c n f) : Rd k w a n f := by
  intro i hi
  rcases h.2 with ⟨h1, h2⟩ | ⟨g, cap, cur, h1, h2⟩
  · omega
  · cases h1
    refine ⟨g, 0, rfl, ?_⟩
    rw [Nat.zero_add, World.ownsRow.cellAt h i (by omega)]
    simp [hi]
theorem Grow.le {k : IntKind} {e : TypeId} {w : World} {base : Nat} {a : Option Addr} {c n : Nat} {f : Nat → Nat} (h : Grow k e w base a c n f) : n ≤ c := by
  rcases h.2 with ⟨h1, h2⟩ | ⟨g, cap, cur, h1, h2, h3, h4, h5⟩
  · omega
  · cases h1; exact h4
theorem Grow.block {k : IntKind} {e : TypeId} {w : World} {base : Nat} {a : Option Addr} {c n : Nat} {f : Nat → Nat} (h : Grow k e w base a c n f) (b : Nat) (hb : (Value.slice a n c).ownBlock = some b) : base ≤ b ∧ b < w.heap.size :=
  World.ownsRow.lt h b hb
theorem Grow.congr {k : IntKind} {e : TypeId} {w : World} {base : Nat} {a : Option Addr} {c n : Nat} {f g : Nat → Nat} (h : Grow k e w base a c n f) (he : ∀ i, i < n → f i = g i) : Grow k e w base a c n g := by
  unfold Grow at *
  rw [show ((List.range n).map fun i => Value.int k (g i)) = ((List.range n).map fun i => Value.int k (f i)) from List.map_congr_left fun i hi => by rw [he i (List.mem_range.1 hi)]]
  exact h
theorem Grow.keep {S : Nat → Prop} {k : IntKind} {e : TypeId} {w w' : World} {base : Nat} {a : Option Addr} {c n : Nat} {f : Nat → Nat} (h : Grow k e w base a c n f) (hu : Upd S w w') (hS : ∀ b, (Value.slice a n c).ownBlock = some b → ¬ S b) : Grow k e w' base a c n f := by
  refine ⟨h.1, ?_⟩
  rcases h.2 with h2 | ⟨g, cap, cur, h1, h2, h3, h4⟩
  · exact .inl h2
  · refine .inr ⟨g, cap, cur, h1, h2, ?_, h4⟩
    rw [hu.block g ?_ (hS g (by rw [h1]; rfl))]
    · exact h3
    · exact (Array.getElem?_eq_some_iff.1 h3).1
theorem Grow.sl {k : IntKind} {e : TypeId} {w : World} {base : Nat} {a : Option Addr} {c n : Nat} {f : Nat → Nat} (h : Grow k e w base a c n f) : Sl k w a n c f :=
  ⟨h.le, h.rd, fun e => by
    subst e
    rcases h.2 with ⟨h1, h2⟩ | ⟨g, cap, cur, h1, _⟩
    · cases h1; rfl
    · cases h1⟩
theorem Grow.keep0 {k : IntKind} {e : TypeId} {w w' : World} {base : Nat} {a : Option Addr} {c n : Nat} {f : Nat → Nat} (h : Grow k e w base a c n f) (hu : Upd0 w w') : Grow k e w' base a c n f := h.keep hu fun _ _ h => h
theorem Rd.one {k : IntKind} {w : World} {z : Int} {e v : Nat} (hz : z = v) : Rd k (w.alloc (.cells #[.int k z] e)) (some ⟨w.heap.size, 0, none⟩) 1 (fun _ => v) := by
  subst hz
  refine .mk fun i hi => ?_
  obtain rfl : i = 0 := by omega
  exact World.cell?_alloc_new _ _ _ _
theorem Upd.of_grown {w w' : World} {r : Option Nat} (h : w.grownBy w' r) : Upd (fun b => r = some b) w w' :=
  ⟨h.os, h.tape, h.output, h.size, fun k hk hS => h.block k hk fun e => hS e.symm⟩

theorem range_append_map (n m : Nat) (F G : Nat → Value) : ((List.range n).map F) ++ ((List.range m).map G) = (List.range (n + m)).map fun i => if i < n then F i else G (i - n) := by
  rw [List.range_add, List.map_append, List.map_map]
  congr 1
  · apply List.map_congr_left
    intro i hi
    rw [if_pos (List.mem_range.1 hi)]
  · apply List.map_congr_left
    intro i _
    simp only [Function.comp]
    rw [if_neg (by omega)]
    congr 1; omega

theorem Addr.add_mk (b o i : Nat) : (⟨b, o, none⟩ : Addr).add i = ⟨b, o + i, none⟩ := by unfold Addr.add; split <;> simp_all

section
variable {P : Program} {w : World} {ops : Array Oper} {rest : List Oper} {o : Oper} {a : Act} {Q : Exit → Act → World → Prop}
/-- append(s, x...) onto a slice of the call's own. -/
theorem wpList_append_ints (hgd : o.guard = none) (s x : Operand) (t : TypeId) (ho : o.op = .call { callee := .builtin .append, args := #[s, x], argTypes := #[t, t] })
    (base e : Nat) (k : IntKind) (bytes : Nat) (ht : P.underlying t = some (.slice e)) (hi : (P.info? e).map (fun i => (i.zero, i.size, i.bytes)) = some (some (.int k 0), 1, bytes))
    (sa : Option Addr) (sc n : Nat) (f : Nat → Nat) (hs : a.eval s = .slice sa n sc) (hown : Grow k e w base sa sc n f)
    (ax : Addr) (m cx : Nat) (g : Nat → Nat) (hx : a.eval x = .slice (some ax) m cx) (hg : Rd k w (some ax) m g)
    (hm : n + m ≤ 1048576) (hby : bytes ≤ 16) (hbase : base ≤ w.heap.size)
    (h : ∀ a' c' w', Grow k e w' base a' c' (n + m) (fun i => if i < n then f i else g (i - n)) → Upd (fun b => (Value.slice sa n sc).ownBlock = some b) w w' →
      wpList P ops Q rest (a.put o.dst (.slice a' (n + m) c')) w') : wpList P ops Q (o :: rest) a w := by
  obtain ⟨i, hi, h0, h1, h2⟩ := info_parts hi
  refine wpList_append_own w hgd s x t ho base e i (.int k 0) 1 bytes ht hi h0 h1 h2 rfl (by omega) _ n _ hs hown ax m cx ((List.range m).map fun i => Value.int k (g i)) hx (by simp) ?_ ?_ ?_ ?_ hbase ?_
  · intro j u hj
    have hjm : j < m := by
      have := (List.getElem?_eq_some_iff.1 hj).1
      simpa using this
    obtain ⟨b, off, e, hc⟩ := hg j hjm
    cases e
    rw [Addr.add_mk, hc]
    simpa [hjm] using hj
  · intro u hu
    obtain ⟨j, _, rfl⟩ := List.mem_map.1 hu
    rfl
  · simp only [maxLen]; omega
  · have : (n + m) * bytes ≤ 1048576 * 16 := Nat.mul_le_mul hm hby
    omega
  · intro v' w' ho' hg' _
    rw [range_append_map] at ho'
    have e : ((List.range (n + m)).map fun i => if i < n then Value.int k (f i) else Value.int k (g (i - n))) = (List.range (n + m)).map fun i => Value.int k (((if i < n then f i else g (i - n) : Nat)) : Int) := by
      apply List.map_congr_left
      intro i _
      split <;> rfl
    rw [e] at ho'
    have hshape : ∃ a' c', v' = .slice a' (n + m) c' := by
      rcases ho'.2 with ⟨h1, h2⟩ | ⟨g, cap, cur, h1, _⟩
      · exact ⟨none, 0, by rw [h1, h2]⟩
      · exact ⟨_, _, h1⟩
    obtain ⟨a', c', rfl⟩ := hshape
    exact h a' c' w' ho' (Upd.of_grown hg')

theorem Upd.setCells {S : Nat → Prop} {x : World} (b : Nat) (hb : b < x.heap.size → S b) : ∀ (vs : List Value) (o : Nat) (w : World), Upd S x w → Upd S x (w.setCells b o vs)
  | [], _, _, h => h
  | v :: r, o, _, h => Upd.setCells b hb r (o + 1) _ (h.setCell ⟨b, o, none⟩ v hb)

theorem own_setCells {k : IntKind} {w : World} {b dn m : Nat} {f g : Nat → Nat} (hown : Own k w b dn f) (_hm : m ≤ dn) :
    Own k (w.setCells b 0 ((List.range m).map fun i => Value.int k (g i))) b dn (fun i => if i < m then g i else f i) := by
  refine ⟨fun i hi => ?_, fun i hi => by rw [World.frozen?_setCells]; exact hown.free i hi⟩
  by_cases h : i < m
  · rw [if_pos h]
    have := World.cell?_setCells_in b ((List.range m).map fun i => Value.int k (g i)) 0 w (fun j hj => by
      rw [Nat.zero_add, hown.cell j (by simp at hj; omega)]; rfl) i (by simpa using h)
    rw [Nat.zero_add] at this
    simpa using this
  · rw [if_neg h, World.cell?_setCells_out b _ 0 w _ (fun j hj => by
      right; simp at hj ⊢; omega)]
    exact hown.cell i hi

/-- copy(d, s) into a row of the call's own. -/
theorem wpList_copy_ints (hgd : o.guard = none) (d s : Operand) (dT sT : TypeId) (ho : o.op = .call { callee := .builtin .copy, args := #[d, s], argTypes := #[dT, sT] })
    (elem : TypeId) (hu : P.underlying dT = some (.slice elem)) (hsz : (P.info? elem).map (·.size) = some 1)
    (k : IntKind) (b dn dc : Nat) (f : Nat → Nat) (hd : a.eval d = .slice (some ⟨b, 0, none⟩) dn dc) (hown : Own k w b dn f)
    (ax : Option Addr) (m cx : Nat) (g : Nat → Nat) (hx : a.eval s = .slice ax m cx) (hg : Rd k w ax m g)
    (h : ∀ w', Own k w' b dn (fun i => if i < m then g i else f i) → (∀ i, dn ≤ i → w'.cell? ⟨b, i, none⟩ = w.cell? ⟨b, i, none⟩) → (∀ x, w'.frozen? x = w.frozen? x) → Upd (fun x => x = b) w w' → wpList P ops Q rest (a.put o.dst (goInt (Nat.min m dn))) w') : wpList P ops Q (o :: rest) a w := by
  have key : ∃ w', (Builtin.copy_ #[dT, sT] o.type #[.slice (some ⟨b, 0, none⟩) dn dc, .slice ax m cx]).run P w = .ok (goInt (Nat.min m dn)) w' ∧ Own k w' b dn (fun i => if i < m then g i else f i) ∧ (∀ i, dn ≤ i → w'.cell? ⟨b, i, none⟩ = w.cell? ⟨b, i, none⟩) ∧ (∀ x, w'.frozen? x = w.frozen? x) ∧ Upd (fun x => x = b) w w' := by
    by_cases h0 : Nat.min m dn = 0
    · refine ⟨w, ?_, hown.congr (fun i hi => ?_), fun _ _ => rfl, fun _ => rfl, .refl _ _⟩
      · rw [h0]; exact run_copy_none w dT sT o.type elem _ _ dn dc m cx hu hsz h0
      · have : m = 0 := by
          have h1 : min m dn = 0 := h0
          omega
        rw [if_neg (by omega)]
    · have hm : 0 < m := by
        rcases Nat.eq_zero_or_pos m with h1 | h1
        · exact absurd (show Nat.min m dn = 0 by rw [h1]; exact Nat.zero_min dn) h0
        · exact h1
      obtain ⟨bx, off, rfl, hc⟩ := hg.open hm
      have hr := run_copy_cells (P := P) w dT sT o.type elem b 0 dn dc ⟨bx, off, none⟩ m cx ((List.range (Nat.min m dn)).map fun i => Value.int k (g i)) hu hsz (by simp)
        (fun j v hj => by
          have hjm : j < Nat.min m dn := by
            have := (List.getElem?_eq_some_iff.1 hj).1
            simpa using this
          have hjm' : j < m := Nat.lt_of_lt_of_le hjm (Nat.min_le_left m dn)
          rw [Addr.add_mk, hc j hjm']
          simpa [hjm] using hj)
        (fun j hj => by
          rw [Nat.zero_add, hown.cell j (Nat.lt_of_lt_of_le (by simpa using hj) (Nat.min_le_right m dn))]; rfl)
        (fun j hj => by rw [Nat.zero_add]; exact hown.free j (Nat.lt_of_lt_of_le (by simpa using hj) (Nat.min_le_right m dn)))
        (fun u hu => by obtain ⟨j, _, rfl⟩ := List.mem_map.1 hu; rfl)
      rw [List.length_map, List.length_range] at hr
      refine ⟨_, hr, (own_setCells hown (Nat.min_le_right m dn)).congr (fun i hi => ?_), fun i hi => ?_, fun x => World.frozen?_setCells _ _ _ _ _, Upd.setCells (S := fun x => x = b) b (fun _ => rfl) _ 0 w (.refl _ _)⟩
      rotate_left
      · refine World.cell?_setCells_out b _ 0 w _ (fun _ _ => ?_)
        right
        simp only [List.length_map, List.length_range, Nat.zero_add]
        exact Nat.le_trans (Nat.min_le_right m dn) hi
      have : (i < Nat.min m dn) ↔ i < m := by
        have e : Nat.min m dn = min m dn := rfl
        rw [e]; omega
      by_cases h' : i < m
      · rw [if_pos h', if_pos (this.2 h')]
      · rw [if_neg h', if_neg (fun h'' => h' (this.1 h''))]
  obtain ⟨w', hr, h1, h2, h3, h4⟩ := key
  refine wpList_plain hgd fun K hK => ?_
  unfold Oper.wp execOp
  simp only [ho, resolve, invoke, builtin, Sem.run_bind, Sem.run_pure, Result.andThen_ok, List.map_toArray, List.map_cons, List.map_nil, hd, hx, hr]
  exact hK _ _ (h w' h1 h2 h3 h4)

/-- clear(d), d a part of a row of the call's own. -/
theorem wpList_clear_ints (hgd : o.guard = none) (d : Operand) (dT : TypeId) (ho : o.op = .call { callee := .builtin .clear, args := #[d], argTypes := #[dT] })
    (elem : TypeId) (k : IntKind) (hu : P.underlying dT = some (.slice elem)) (hz : (P.info? elem).map (fun i => i.zero) = some (some (.int k 0)))
    (b off m cc : Nat) (hd : a.eval d = .slice (some ⟨b, off, none⟩) m cc) (hc : ∀ j, j < m → (w.cell? ⟨b, off + j, none⟩).isSome = true) (hf : ∀ j, j < m → w.frozen? ⟨b, off + j, none⟩ = false)
    (h : ∀ w', (∀ i, i < m → w'.cell? ⟨b, off + i, none⟩ = some (.int k 0)) → (∀ i, (i < off ∨ off + m ≤ i) → w'.cell? ⟨b, i, none⟩ = w.cell? ⟨b, i, none⟩) → (∀ x, w'.frozen? x = w.frozen? x) → Upd (fun x => x = b) w w' → wpList P ops Q rest (a.put o.dst (.tuple #[])) w') : wpList P ops Q (o :: rest) a w := by
  have hv : ∀ w, (zeroValue elem).run P w = .ok (.int k 0) w := by
    intro w
    cases hq : P.info? elem with
    | none => simp [hq] at hz
    | some i =>
      have hi : i.zero = some (.int k 0) := by simpa [hq] using hz
      simp [zeroValue, typeInfo, hq, hi]
  have key : ∃ w', (Builtin.clear_ #[dT] o.type #[.slice (some ⟨b, off, none⟩) m cc]).run P w = .ok (.tuple #[]) w' ∧ (∀ i, i < m → w'.cell? ⟨b, off + i, none⟩ = some (.int k 0)) ∧ (∀ i, (i < off ∨ off + m ≤ i) → w'.cell? ⟨b, i, none⟩ = w.cell? ⟨b, i, none⟩) ∧ (∀ x, w'.frozen? x = w.frozen? x) ∧ Upd (fun x => x = b) w w' := by
    rcases Nat.eq_zero_or_pos m with h0 | h0
    · subst h0
      refine ⟨w, ?_, fun i hi => absurd hi (Nat.not_lt_zero i), fun _ _ => rfl, fun _ => rfl, .refl _ _⟩
      simp [Builtin.clear_, run_underlying hu]
    · refine ⟨_, Lib.run_clear_slice w dT elem o.type (.int k 0) hu hv rfl rfl b off m cc h0 hc hf, fun i hi => ?_, fun i hi => ?_, fun x => World.frozen?_setCells _ _ _ _ _, Upd.setCells (S := fun x => x = b) b (fun _ => rfl) _ off w (.refl _ _)⟩
      · have := World.cell?_setCells_in b (List.replicate m (Value.int k 0)) off w (fun j hj => hc j (by simpa using hj)) i (by simpa using hi)
        simpa using this
      · refine World.cell?_setCells_out b _ off w _ (fun _ _ => ?_)
        simpa using hi
  obtain ⟨w', hr, h1, h2, h3, h4⟩ := key
  refine wpList_plain hgd fun K hK => ?_
  unfold Oper.wp execOp
  simp only [ho, resolve, invoke, builtin, Sem.run_bind, Sem.run_pure, Result.andThen_ok, List.map_toArray, List.map_cons, List.map_nil, hd, hr]
  exact hK _ _ (h w' h1 h2 h3 h4)
end
end Go.Proofs.Ytpojonfopoobpaa

namespace Go.Proofs.Ytpojonfopoobpaa
open Go.RowKit

def addW (x y : Nat) : Nat := (x + y) % W64
def subW (x y : Nat) : Nat := (x + (W64 - y % W64)) % W64
def mulW (x y : Nat) : Nat := (x * y) % W64
def andW (x y : Nat) : Nat := (x &&& y) % W64
def orW (x y : Nat) : Nat := (x ||| y) % W64
def xorW (x y : Nat) : Nat := (x ^^^ y) % W64
def shlW (x s : Nat) : Nat := x * 2 ^ s % W64
def shrW (x s : Nat) : Nat := x / 2 ^ s
theorem addW_lt (x y : Nat) : addW x y < 18446744073709551616 := Nat.mod_lt _ W64_pos
theorem subW_lt (x y : Nat) : subW x y < 18446744073709551616 := Nat.mod_lt _ W64_pos
theorem mulW_lt (x y : Nat) : mulW x y < 18446744073709551616 := Nat.mod_lt _ W64_pos
theorem andW_lt (x y : Nat) : andW x y < 18446744073709551616 := Nat.mod_lt _ W64_pos
theorem orW_lt (x y : Nat) : orW x y < 18446744073709551616 := Nat.mod_lt _ W64_pos
theorem xorW_lt (x y : Nat) : xorW x y < 18446744073709551616 := Nat.mod_lt _ W64_pos
theorem shlW_lt (x y : Nat) : shlW x y < 18446744073709551616 := Nat.mod_lt _ W64_pos
theorem shrW_lt {x : Nat} (y : Nat) (h : x < 18446744073709551616) : shrW x y < 18446744073709551616 := Nat.lt_of_le_of_lt (Nat.div_le_self _ _) h

section
variable {P : Program} (t : TypeId)
theorem run_addW (x y : Nat) (w : World) : (binOp .add t (.int .u64 x) (.int .u64 y)).run P w = .ok (.int .u64 (addW x y)) w := by
  simp [binOp, Op.intArith, IntKind.wrap_u64, addW, W64]
theorem run_mulW (x y : Nat) (w : World) : (binOp .mul t (.int .u64 x) (.int .u64 y)).run P w = .ok (.int .u64 (mulW x y)) w := by
  simp [binOp, Op.intArith, IntKind.wrap_u64, mulW, W64]
theorem run_subW (x y : Nat) (w : World) : (binOp .sub t (.int .u64 x) (.int .u64 y)).run P w = .ok (.int .u64 (subW x y)) w := by
  have h : ((x : Int) - (y : Int)) % 18446744073709551616 = ((subW x y : Nat) : Int) := by
    simp only [subW, W64]; omega
  simp [binOp, Op.intArith, IntKind.wrap_u64, h]
theorem bv64 (x : Nat) : (BitVec.ofInt 64 (x : Int)).toNat = x % W64 := by
  rw [BitVec.ofInt_natCast, BitVec.toNat_ofNat]; rfl
theorem and_mod64 (x y : Nat) : (x % W64 &&& y % W64) = (x &&& y) % W64 := by
  rw [W64_eq, Nat.and_mod_two_pow]
theorem run_andW (x y : Nat) (w : World) : (binOp .and t (.int .u64 x) (.int .u64 y)).run P w = .ok (.int .u64 (andW x y)) w := by
  have h : (BitVec.ofInt 64 (x : Int) &&& BitVec.ofInt 64 (y : Int)).toNat = andW x y := by
    rw [BitVec.toNat_and, bv64, bv64, and_mod64]; rfl
  have h2 := andW_lt x y
  simp only [binOp, Op.intBits, ne_eq, not_true_eq_false, if_false]
  rw [show IntKind.u64.bits = 64 from rfl]
  simp only [h, IntKind.wrap_u64]
  rw [Int.emod_eq_of_lt (by omega) (by omega)]
  rfl
theorem run_orW (x y : Nat) (w : World) : (binOp .or t (.int .u64 x) (.int .u64 y)).run P w = .ok (.int .u64 (orW x y)) w := by
  have h : (BitVec.ofInt 64 (x : Int) ||| BitVec.ofInt 64 (y : Int)).toNat = orW x y := by
    rw [BitVec.toNat_or, bv64, bv64]
    show _ = (x ||| y) % W64
    rw [W64_eq, Nat.or_mod_two_pow]
  have h2 := orW_lt x y
  simp only [binOp, Op.intBits, ne_eq, not_true_eq_false, if_false]
  rw [show IntKind.u64.bits = 64 from rfl]
  simp only [h, IntKind.wrap_u64]
  rw [Int.emod_eq_of_lt (by omega) (by omega)]
  rfl
theorem run_xorW (x y : Nat) (w : World) : (binOp .xor t (.int .u64 x) (.int .u64 y)).run P w = .ok (.int .u64 (xorW x y)) w := by
  have h : (BitVec.ofInt 64 (x : Int) ^^^ BitVec.ofInt 64 (y : Int)).toNat = xorW x y := by
    rw [BitVec.toNat_xor, bv64, bv64]
    show _ = (x ^^^ y) % W64
    rw [W64_eq, Nat.xor_mod_two_pow]
  have h2 := xorW_lt x y
  simp only [binOp, Op.intBits, ne_eq, not_true_eq_false, if_false]
  rw [show IntKind.u64.bits = 64 from rfl]
  simp only [h, IntKind.wrap_u64]
  rw [Int.emod_eq_of_lt (by omega) (by omega)]
  rfl
theorem run_shlW (x s : Nat) (k : IntKind) (w : World) : (binOp .shl t (.int .u64 x) (.int k s)).run P w = .ok (.int .u64 (shlW x s)) w := by
  have h : ((x : Int) * 2 ^ min s 64) % 18446744073709551616 = ((shlW x s : Nat) : Int) := by
    have e : x * 2 ^ min s 64 % 18446744073709551616 = shlW x s := by
      unfold shlW
      rcases Nat.le_total s 64 with h | h
      · rw [Nat.min_eq_left h]; rfl
      · rw [Nat.min_eq_right h, show s = 64 + (s - 64) by omega, Nat.pow_add, ← Nat.mul_assoc, Nat.mul_right_comm]
        rw [show (2 : Nat) ^ 64 = W64 from rfl]
        rw [show (18446744073709551616 : Nat) = W64 from rfl]
        rw [Nat.mul_mod_left, Nat.mul_mod_left]
    rw [← e]; simp
  simp only [binOp, Op.shift]
  rw [if_neg (by omega), show IntKind.u64.bits = 64 from rfl, Int.toNat_natCast, IntKind.wrap_u64, h]
  rfl
theorem run_shrW (x s : Nat) (hx : x < 18446744073709551616) (k : IntKind) (w : World) : (binOp .shr t (.int .u64 x) (.int k s)).run P w = .ok (.int .u64 (shrW x s)) w := by
  have h : (x : Int).fdiv (2 ^ min s 64) = ((shrW x s : Nat) : Int) := by
    have e : x / 2 ^ min s 64 = shrW x s := by
      unfold shrW
      rcases Nat.le_total s 64 with h | h
      · rw [Nat.min_eq_left h]
      · rw [Nat.min_eq_right h, Nat.div_eq_of_lt (by exact hx), Nat.div_eq_of_lt]
        have h2 : (2 : Nat) ^ 64 ≤ 2 ^ s := Nat.pow_le_pow_right (by omega) h
        exact Nat.lt_of_lt_of_le hx h2
    rw [← e, Int.fdiv_eq_ediv_of_nonneg _ (Int.pow_nonneg (by omega))]; simp
  simp only [binOp, Op.shift]
  rw [if_neg (by omega), show IntKind.u64.bits = 64 from rfl, Int.toNat_natCast, h]
  rfl
end
/- The same, as the walk itself spells them. -/
theorem bits_and (x y : Nat) : bits .and .u64 (x : Int) (y : Int) = ((andW x y : Nat) : Int) := by
  have h : (BitVec.ofInt 64 (x : Int) &&& BitVec.ofInt 64 (y : Int)).toNat = andW x y := by
    rw [BitVec.toNat_and, bv64, bv64, and_mod64]; rfl
  have h2 := andW_lt x y
  show IntKind.u64.wrap ((BitVec.ofInt 64 (x : Int) &&& BitVec.ofInt 64 (y : Int)).toNat : Int) = _
  rw [h, IntWalk.u64_in _ (by omega)]
theorem bits_or (x y : Nat) : bits .or .u64 (x : Int) (y : Int) = ((orW x y : Nat) : Int) := by
  have h : (BitVec.ofInt 64 (x : Int) ||| BitVec.ofInt 64 (y : Int)).toNat = orW x y := by
    rw [BitVec.toNat_or, bv64, bv64]
    show _ = (x ||| y) % W64
    rw [W64_eq, Nat.or_mod_two_pow]
  have h2 := orW_lt x y
  show IntKind.u64.wrap ((BitVec.ofInt 64 (x : Int) ||| BitVec.ofInt 64 (y : Int)).toNat : Int) = _
  rw [h, IntWalk.u64_in _ (by omega)]
theorem bits_xor (x y : Nat) : bits .xor .u64 (x : Int) (y : Int) = ((xorW x y : Nat) : Int) := by
  have h : (BitVec.ofInt 64 (x : Int) ^^^ BitVec.ofInt 64 (y : Int)).toNat = xorW x y := by
    rw [BitVec.toNat_xor, bv64, bv64]
    show _ = (x ^^^ y) % W64
    rw [W64_eq, Nat.xor_mod_two_pow]
  have h2 := xorW_lt x y
  show IntKind.u64.wrap ((BitVec.ofInt 64 (x : Int) ^^^ BitVec.ofInt 64 (y : Int)).toNat : Int) = _
  rw [h, IntWalk.u64_in _ (by omega)]
theorem wrap_shl (x s : Nat) : IntKind.u64.wrap ((x : Int) * 2 ^ s) = ((shlW x s : Nat) : Int) := by
  rw [IntKind.wrap_u64]; unfold shlW W64; simp
theorem wrap_add (x y : Nat) : IntKind.u64.wrap ((x : Int) + (y : Int)) = ((addW x y : Nat) : Int) := by
  rw [IntKind.wrap_u64]; unfold addW W64; simp
theorem wrap_mul (x y : Nat) : IntKind.u64.wrap ((x : Int) * (y : Int)) = ((mulW x y : Nat) : Int) := by
  rw [IntKind.wrap_u64]; unfold mulW W64; simp
theorem wrap_sub (x y : Nat) : IntKind.u64.wrap ((x : Int) - (y : Int)) = ((subW x y : Nat) : Int) := by
  rw [IntKind.wrap_u64]; unfold subW W64; omega
theorem powW (n : Nat) : W64 ^ n = 2 ^ (64 * n) := by rw [W64_eq, ← Nat.pow_mul]
/-- The number of bits by the highest limb. -/
theorem blen_topW {X j : Nat} (h : X < W64 ^ (j + 1)) (ht : dg W64 X j ≠ 0) : blen X = 64 * j + blen (dg W64 X j) := by
  have := mod_succ W64 X j
  rw [Nat.mod_eq_of_lt h] at this
  have hm := Nat.mod_lt X (show 0 < W64 ^ j from Nat.pow_pos W64_pos)
  have e : X = dg W64 X j * 2 ^ (64 * j) + X % W64 ^ j := by rw [← powW, Nat.mul_comm]; omega
  have h2 := blen_add_lt (c := X % W64 ^ j) (k := 64 * j) ht (by rw [← powW]; exact hm)
  rw [← e] at h2
  omega
theorem lt_of_no_topW {X j : Nat} (h : X < W64 ^ (j + 1)) (ht : dg W64 X j = 0) : X < W64 ^ j := by
  have := mod_succ W64 X j
  rw [Nat.mod_eq_of_lt h, ht, Nat.mul_zero, Nat.add_zero] at this
  have := Nat.mod_lt X (show 0 < W64 ^ j from Nat.pow_pos W64_pos)
  omega
theorem dg_half (Z k : Nat) : dg W64 (Z / 2) k = dg W64 Z k / 2 + dg W64 Z (k + 1) % 2 * 9223372036854775808 := by
  unfold dg
  have e1 : Z / 2 / W64 ^ k = Z / W64 ^ k / 2 := by rw [Nat.div_div_eq_div_mul, Nat.div_div_eq_div_mul, Nat.mul_comm]
  have e2 : Z / W64 ^ (k + 1) = Z / W64 ^ k / W64 := by rw [Nat.pow_succ, Nat.div_div_eq_div_mul]
  rw [e1, e2]
  generalize Z / W64 ^ k = z
  unfold W64
  omega
theorem dg_carry {X n j : Nat} (cy : Nat) (hX : X < W64 ^ n) (hcy : cy ≤ 1) : dg W64 (X + cy * W64 ^ n) j = if j < n then dg W64 X j else if j = n then cy else 0 := by
  have hp : 0 < W64 ^ n := Nat.pow_pos W64_pos
  by_cases h : j < n
  · rw [if_pos h, ← dg_mod_lt W64_pos h, Nat.add_mul_mod_self_right, Nat.mod_eq_of_lt hX]
  · rw [if_neg h]
    by_cases e : j = n
    · subst e
      rw [if_pos rfl]
      unfold dg
      rw [Nat.add_mul_div_right _ _ hp, Nat.div_eq_of_lt hX, Nat.zero_add]
      exact Nat.mod_eq_of_lt (by unfold W64; omega)
    · rw [if_neg e]
      refine dg_of_lt' W64_pos (n := n + 1) ?_ (by omega)
      rw [Nat.pow_succ]
      have h1 : cy * W64 ^ n ≤ 1 * W64 ^ n := Nat.mul_le_mul_right _ hcy
      have h2 : W64 ^ n * 2 ≤ W64 ^ n * W64 := Nat.mul_le_mul_left _ (by unfold W64; omega)
      omega
/-- A limb shifted by one bit, the bit from above laid in by 'or'. -/
theorem or_half (d d' : Nat) (hd : d < 18446744073709551616) : bits .or .u64 ((d : Int) / 2) (IntKind.u64.wrap ((d' : Int) * 9223372036854775808)) = ((d / 2 + d' % 2 * 9223372036854775808 : Nat) : Int) := by
  have e1 : ((d : Int) / 2) = ((d / 2 : Nat) : Int) := by omega
  have e2 : IntKind.u64.wrap ((d' : Int) * 9223372036854775808) = ((d' % 2 * 9223372036854775808 : Nat) : Int) := by
    rw [IntKind.wrap_u64]; omega
  rw [e1, e2, bits_or]
  congr 1
  unfold orW
  have h := or_shift (x := d / 2) (d := d' % 2) (s := 63) (by omega)
  rw [Nat.shiftLeft_eq] at h
  rw [show (9223372036854775808 : Nat) = 2 ^ 63 from rfl, h]
  exact Nat.mod_eq_of_lt (by unfold W64; omega)
theorem dg_shift (X L s k : Nat) (hs : s < 64) : dg W64 (X / 2 ^ (64 * L + s)) k = dg W64 X (L + k) / 2 ^ s + dg W64 X (L + (k + 1)) % 2 ^ s * 2 ^ (64 - s) := by
  unfold dg
  have e1 : X / 2 ^ (64 * L + s) / W64 ^ k = X / W64 ^ (L + k) / 2 ^ s := by
    rw [Nat.div_div_eq_div_mul, Nat.div_div_eq_div_mul, Nat.pow_add 2, ← powW, Nat.pow_add W64, Nat.mul_right_comm]
  have e2 : X / W64 ^ (L + (k + 1)) = X / W64 ^ (L + k) / W64 := by rw [← Nat.add_assoc, Nat.pow_succ, Nat.div_div_eq_div_mul]
  rw [e1, e2]
  generalize X / W64 ^ (L + k) = z
  have hW : W64 = 2 ^ s * 2 ^ (64 - s) := by rw [← Nat.pow_add, show s + (64 - s) = 64 by omega]; rfl
  have hp1 : 0 < 2 ^ s := Nat.pow_pos (by omega)
  have hp2 : 0 < 2 ^ (64 - s) := Nat.pow_pos (by omega)
  have hle : 2 ^ s ≤ W64 := by rw [hW]; exact Nat.le_mul_of_pos_right _ hp2
  rw [Nat.mod_mod_of_dvd (z / W64) (show 2 ^ s ∣ W64 from ⟨2 ^ (64 - s), hW⟩)]
  generalize 2 ^ s = A at *
  generalize 2 ^ (64 - s) = B at *
  rw [hW, Nat.mod_mul_right_div_self]
  have h1 : z / A % (A * B) = z / A % (B * A) := by rw [Nat.mul_comm]
  rw [h1, Nat.mod_mul, Nat.div_div_eq_div_mul, Nat.mul_comm B]
theorem or_shr (d d' s : Nat) (hd : d < 18446744073709551616) (hs : s < 64) : bits .or .u64 ((d : Int) / 2 ^ s) (IntKind.u64.wrap ((d' : Int) * 2 ^ (64 - s))) = ((d / 2 ^ s + d' % 2 ^ s * 2 ^ (64 - s) : Nat) : Int) := by
  have hp1 : 0 < 2 ^ s := Nat.pow_pos (by omega)
  have hW : (18446744073709551616 : Nat) = 2 ^ s * 2 ^ (64 - s) := by rw [← Nat.pow_add, show s + (64 - s) = 64 by omega]
  have e1 : ((d : Int) / 2 ^ s) = ((d / 2 ^ s : Nat) : Int) := by simp
  have e2 : IntKind.u64.wrap ((d' : Int) * 2 ^ (64 - s)) = ((d' % 2 ^ s * 2 ^ (64 - s) : Nat) : Int) := by
    rw [wrap_shl]
    congr 1
    unfold shlW
    rw [show W64 = 2 ^ s * 2 ^ (64 - s) from hW, Nat.mul_mod_mul_right]
  rw [e1, e2, bits_or]
  congr 1
  unfold orW
  have h1 : d / 2 ^ s < 2 ^ (64 - s) := by
    rw [Nat.div_lt_iff_lt_mul hp1, Nat.mul_comm, ← hW]; exact hd
  have h := or_shift (x := d / 2 ^ s) (d := d' % 2 ^ s) (s := 64 - s) h1
  rw [Nat.shiftLeft_eq] at h
  rw [h]
  refine Nat.mod_eq_of_lt ?_
  have h2 : d' % 2 ^ s < 2 ^ s := Nat.mod_lt _ hp1
  have h3 : (d' % 2 ^ s + 1) * 2 ^ (64 - s) ≤ 2 ^ s * 2 ^ (64 - s) := Nat.mul_le_mul_right _ h2
  rw [← hW, Nat.add_mul, Nat.one_mul] at h3
  show _ < 18446744073709551616
  omega
/-- A byte laid into its limb by 'or'. -/
theorem word_next (N k j : Nat) : (if j = k / 8 then orW (dg W64 (N % 256 ^ k) (k / 8)) (shlW (dg 256 N k) (8 * (k % 8))) else dg W64 (N % 256 ^ k) j) = dg W64 (N % 256 ^ (k + 1)) j := by
  have h2 : dg W64 (N % 256 ^ (k + 1)) j = _ := limb_next_byte N k j
  rw [h2]
  by_cases e : j = k / 8
  · subst e
    rw [if_pos rfl, if_pos rfl]
    have h6 := limb_lt (N % 256 ^ (k + 1)) (k / 8)
    rw [h2, if_pos rfl] at h6
    have h3 : dg W64 (N % 256 ^ k) (k / 8) < 2 ^ (8 * (k % 8)) := limb_low N k
    have h4 := or_shift (d := dg 256 N k) h3
    show orW (dg W64 (N % 256 ^ k) (k / 8)) _ = dg W64 (N % 256 ^ k) (k / 8) + _
    have h7 : dg W64 (N % 256 ^ k) (k / 8) + dg 256 N k * 2 ^ (8 * (k % 8)) < W64 := h6
    unfold orW shlW
    rw [Nat.mod_eq_of_lt (a := dg 256 N k * 2 ^ (8 * (k % 8))) (by omega), ← Nat.shiftLeft_eq, h4, Nat.mod_eq_of_lt h7, Nat.shiftLeft_eq]
  · rw [if_neg e, if_neg e]; rfl
end Go.Proofs.Ytpojonfopoobpaa

namespace Go.Proofs.Ytpojonfopoobpaa
open Go.RowKit

theorem ret_int {k : IntKind} {a b : Int} (h : a = b) : Ending.returned (.int k a) = .returned (.int k b) := by rw [h]
theorem ret_nat {k : IntKind} {a b : Nat} (h : a = b) : Ending.returned (.int k a) = .returned (.int k b) := by rw [h]
theorem ret_slice {a : Option Addr} {n m c : Nat} (h : n = m) : Ending.returned (.slice a n c) = .returned (.slice a m c) := by rw [h]
theorem ret_bool {a b : Bool} (h : a = b) : Ending.returned (.bool a) = .returned (.bool b) := by rw [h]

/-- A digit of a number that is read, behind a name. -/
theorem num_cell {a : Option Addr} {n N j : Nat} {w : World} (hr : Rd .i64 w a n (dg 65536 N)) (hj : j < n) :
    ∃ b off d, a = some ⟨b, off, none⟩ ∧ w.cell? ⟨b, off + j, none⟩ = some (.int .i64 (d : Nat)) ∧ d < 65536 ∧ Hid (d = dg 65536 N j) := by
  obtain ⟨b, off, rfl, h⟩ := hr j hj
  exact ⟨b, off, _, rfl, h, dg_lt (by omega) _ _, rfl⟩

set_option maxHeartbeats 400000 in
theorem trimmed_any (a : Option Addr) (n c N : Nat) (w : World) (hn : n ≤ 1048576) (hc : n ≤ c) (hN : N < 65536 ^ n) (hr : Rd .i64 w a n (dg 65536 N)) :
    Calls Try.prog 116 #[.slice a n c] w fun e w' => e = .returned (.slice a (nd N) c) ∧ w = w' := by
  have hnd : nd N ≤ n := (nd_le_iff n N).2 hN
  go_enter Try.func116, Try.ntmps116
  go_wp2
  go_loop [3] (fun i => ∃ k : Nat, k ≤ n ∧ nd N ≤ k ∧ i = .int .i64 k) (fun i => (intOf i).toNat)
  case atStart => exact ⟨n, Nat.le_refl _, hnd, rfl⟩
  case round =>
    obtain ⟨k, hk, hkn, rfl⟩ := hrel
    by_cases h0 : k = 0
    · subst h0
      go_wp2
      go_ret
      exact ⟨ret_slice (by omega), rfl⟩
    · obtain ⟨j, rfl⟩ : ∃ j, k = j + 1 := ⟨k - 1, by omega⟩
      obtain ⟨b, off, d, rfl, hcell, hd, HD⟩ := num_cell hr (show j < n by omega)
      have hlt : N < 65536 ^ (j + 1) := (nd_le_iff _ _).1 hkn
      have HT : Hid (N < 65536 ^ (j + 1)) := hlt
      clear hlt hN
      by_cases hz : d = 0
      · subst hz
        go_wp2
        go_round
        case rel => exact ⟨j, by omega, (nd_le_iff _ _).2 (nd_of_no_top HT.out HD.out.symm), rfl⟩
        case measure => simp [intOf]
      · have hz' : ((d : Int) == 0) = false := by simpa using hz
        have HN : Hid (nd N = j + 1) := nd_of_top HT.out (by rw [← HD.out]; exact hz)
        go_wp2
        go_ret
        exact ⟨ret_slice HN.out.symm, rfl⟩

set_option maxHeartbeats 400000 in
theorem bits_any (a : Option Addr) (c N : Nat) (w : World) (hn : nd N ≤ 1048576) (hr : Rd .i64 w a (nd N) (dg 65536 N)) :
    Calls Try.prog 64 #[.slice a (nd N) c] w fun e w' => e = .returned (.int .i64 (blen N)) ∧ w = w' := by
  by_cases h0 : N = 0
  · subst h0
    go_enter Try.func64, Try.ntmps64
    go_wp2
    go_ret
    exact ⟨rfl, rfl⟩
  · obtain ⟨m, hm⟩ : ∃ m, nd N = m + 1 := ⟨nd N - 1, by have := nd_pos h0; omega⟩
    have HB : Hid (blen N = 16 * m + blen (dg 65536 N m)) := blen_top hm
    rw [hm] at hr hn ⊢
    obtain ⟨b, off, d, rfl, hcell, hd, HD⟩ := num_cell hr (show m < m + 1 by omega)
    have HB : Hid (blen N = 16 * m + blen d) := by rw [HD.out]; exact HB
    clear hr hm h0 HD
    go_enter Try.func64, Try.ntmps64
    go_wp2
    go_loop [3, 4] (fun t x => ∃ k y : Nat, y ≤ d ∧ x = .int .i64 y ∧ t = .int .i64 k ∧ Hid (k + blen y = 16 * m + blen d) ∧ k ≤ 16777216 + 16) (fun _ x => (intOf x).toNat)
    case atStart => exact ⟨16 * m, d, Nat.le_refl _, rfl, by go_num, rfl, by omega⟩
    case round =>
      obtain ⟨k, y, hy, rfl, rfl, HK, hk⟩ := hrel
      by_cases hy0 : y = 0
      · subst hy0
        go_wp2
        go_ret
        exact ⟨ret_nat (by rw [HB.out]; have := HK.out; rw [blen_zero] at this; omega), rfl⟩
      · have hy1 : 0 < y := by omega
        have hk2 : k ≤ 16777216 + 15 := by
          have h1 := HK.out
          have h2 := blen_half y hy0
          have h3 : blen d ≤ 16 := (blen_le_iff 16 d).2 hd
          omega
        have HK2 : Hid (k + 1 + blen (y / 2) = 16 * m + blen d) := by
          show _ = _
          rw [← HK.out, blen_half y hy0]; omega
        go_wp2
        go_round
        case rel => exact ⟨k + 1, y / 2, by omega, by go_num, by go_num, HK2, by omega⟩
        case measure => simp [intOf]; omega

set_option maxHeartbeats 400000 in
theorem octet_any (a : Option Addr) (c N i : Nat) (w : World) (hn : nd N ≤ 1048576) (hi : i ≤ 1048576) (hr : Rd .i64 w a (nd N) (dg 65536 N)) :
    Calls Try.prog 149 #[.slice a (nd N) c, .int .i64 i] w fun e w' => e = .returned (.int .u8 (dg 256 N i)) ∧ w = w' := by
  by_cases hlt : i / 2 < nd N
  · have HV : Hid (dg 256 N i = if i % 2 = 1 then dg 65536 N (i / 2) / 256 else dg 65536 N (i / 2) % 256) := dg_byte N i
    obtain ⟨b, off, d, rfl, hcell, hd, HD⟩ := num_cell hr hlt
    have HV : Hid (dg 256 N i = if i % 2 = 1 then d / 256 else d % 256) := by rw [HD.out]; exact HV
    clear HD hr
    generalize nd N = m at *
    by_cases h2 : i % 2 = 1
    · have HV : Hid (dg 256 N i = d / 256) := by show _ = _; rw [HV.out, if_pos h2]
      go_enter Try.func149, Try.ntmps149
      go_wp2
      go_ret
      exact ⟨ret_int (by rw [HV.out]; go_num), rfl⟩
    · have HV : Hid (dg 256 N i = d % 256) := by show _ = _; rw [HV.out, if_neg h2]
      go_enter Try.func149, Try.ntmps149
      go_wp2
      go_ret
      exact ⟨ret_int (by rw [HV.out]; go_num), rfl⟩
  · have HV : Hid (dg 256 N i = 0) := by
      show _ = _
      have h1 : N < 65536 ^ (i / 2) := (nd_le_iff _ _).1 (by omega)
      rw [dg_byte, dg_of_lt h1]
      split <;> rfl
    clear hr
    generalize nd N = m at *
    go_enter Try.func149, Try.ntmps149
    go_wp2
    go_ret
    exact ⟨ret_int (by rw [HV.out]; rfl), rfl⟩

theorem make_u8 (n : Nat) (hn : n ≤ 1048576) : ∀ w, (Instr.makeSlice 22 (.int .i64 n) (.int .i64 n)).run Try.prog w = .ok (.slice (some ⟨w.heap.size, 0, none⟩) n n) (w.alloc (.cells (madeCells #[.int .u8 0] n) 5)) :=
  run_make_ints (bytes := 1) Try.underlying22 (by kernel_rfl) n n (Nat.le_refl _) hn (by omega)
theorem make_num (n : Nat) (hn : n ≤ 1048576) : ∀ w, (Instr.makeSlice 65 (.int .i64 n) (.int .i64 n)).run Try.prog w = .ok (.slice (some ⟨w.heap.size, 0, none⟩) n n) (w.alloc (.cells (madeCells #[.int .i64 0] n) 3)) :=
  run_make_ints (bytes := 8) Try.underlying65 (by kernel_rfl) n n (Nat.le_refl _) hn (by omega)

set_option maxHeartbeats 400000 in
theorem octets_any (a : Option Addr) (c N size : Nat) (w : World) (hn : nd N ≤ 1048576) (hs : size ≤ 1048576) (hr : Rd .i64 w a (nd N) (dg 65536 N)) :
    Calls Try.prog 127 #[.slice a (nd N) c, .int .i64 size] w (RetBytes w size (fun i => dg 256 N (size - 1 - i))) := by
  have hmk := make_u8 size hs
  go_enter Try.func127, Try.ntmps127
  go_wp2
  go_loopw [6] (fun i wr => ∃ k : Nat, k ≤ size ∧ i = .int .i64 k ∧ Own .u8 wr w.heap.size size (fun j => if size - k ≤ j then dg 256 N (size - 1 - j) else 0) ∧ Upd0 w wr) (fun i _ => size - (intOf i).toNat)
  case atStart => exact ⟨0, Nat.zero_le _, rfl, (Own.made .u8 w size _).congr (fun j hj => by rw [if_neg (by omega)]), (Upd.refl _ _).alloc _⟩
  case round =>
    obtain ⟨k, hk, rfl, hown, hu⟩ := hrel
    clear hmk
    by_cases hlt : k < size
    · have hr' := hr.keep hu
      have hcell := hown.cell (size - 1 - k) (by omega)
      have hfree := hown.free (size - 1 - k) (by omega)
      go_wp2_with (go_at_call 149; refine (octet_any _ _ _ _ _ hn (by omega) hr').mono ?_; rintro e w' ⟨rfl, rfl⟩)
      go_roundw
      case rel => exact ⟨k + 1, by omega, by go_num, (hown.set (i := size - 1 - k) (by omega) (dg 256 N k)).congr (fun j hj => by
        by_cases e : j = size - 1 - k
        · subst e; rw [if_pos rfl, if_pos (by omega)]; congr 1; omega
        · rw [if_neg e]
          by_cases e2 : size - k ≤ j
          · rw [if_pos e2, if_pos (by omega)]
          · rw [if_neg e2, if_neg (by omega)]), hu.setCell _ _ (fun h => by simp at h)⟩
      case measure => simp [intOf]; omega
    · go_wp2
      go_ret
      exact ⟨_, _, rfl, (hown.congr (fun j hj => by rw [if_pos (by omega)])).sl (Nat.le_refl _), hu⟩

set_option maxHeartbeats 400000 in
theorem less_any (a a' : Option Addr) (c c' A B : Nat) (w : World) (hA : nd A ≤ 1048576) (_hB : nd B ≤ 1048576) (hr : Rd .i64 w a (nd A) (dg 65536 A)) (hr' : Rd .i64 w a' (nd B) (dg 65536 B)) :
    Calls Try.prog 102 #[.slice a (nd A) c, .slice a' (nd B) c'] w fun e w' => e = .returned (.bool (decide (A < B))) ∧ ∃ k, w' = w.drewN k := by
  by_cases hne : nd A = nd B
  · have HA : Hid (A < 65536 ^ nd A) := lt_pow_nd A
    have HB : Hid (B < 65536 ^ nd A) := by rw [hne]; exact lt_pow_nd B
    rw [← hne] at hr' ⊢
    clear hne
    generalize nd A = m at *
    have hq : ((m : Int) != (m : Int)) = false := by simp
    go_enter Try.func102, Try.ntmps102
    go_wp2
    go_loopw [5] (fun i wr => ∃ k q : Nat, k ≤ m ∧ i = .int .i64 ((k : Int) - 1) ∧ Hid (A / 65536 ^ k = B / 65536 ^ k) ∧ wr = w.drewN q) (fun i _ => (intOf i + 1).toNat)
    case atStart => exact ⟨m, 0, Nat.le_refl _, rfl, by show _ = _; rw [Nat.div_eq_of_lt HA.out, Nat.div_eq_of_lt HB.out], rfl⟩
    case round =>
      obtain ⟨k, q, hk, rfl, HE, rfl⟩ := hrel
      by_cases h0 : k = 0
      · subst h0
        have HE' : Hid (A = B) := by have := HE.out; show A = B; simpa using this
        go_wp2
        go_ret
        exact ⟨ret_bool (by rw [HE'.out]; simp), q, rfl⟩
      · obtain ⟨j, rfl⟩ : ∃ j, k = j + 1 := ⟨k - 1, by omega⟩
        obtain ⟨b, off, d, rfl, hcell, hd, HD⟩ := num_cell hr (show j < m by omega)
        obtain ⟨b', off', d', rfl, hcell', hd', HD'⟩ := num_cell hr' (show j < m by omega)
        have hj1 : ((j : Int) + 1 - 1) = (j : Int) := by omega
        have i1 : (j : Int) < (m : Int) := by omega
        have i2 : (0 : Int) ≤ (j : Int) := by omega
        have i3 : ((j : Int)).toNat = j := by omega
        by_cases hdd : d = d'
        · subst hdd
          have hq2 : ((d : Int) != (d : Int)) = false := by simp
          have HE' : Hid (A / 65536 ^ j = B / 65536 ^ j) := eq_digit (by omega) HE.out (by rw [← HD.out, ← HD'.out])
          go_wp2_with fail
          go_quiet (fail)
          go_wp2_with fail
          go_roundw
          case rel => exact ⟨j, _, by omega, rfl, HE', rfl⟩
          case measure => simp [intOf]
        · have hq2 : ((d : Int) != (d' : Int)) = true := by rw [bne_iff_ne]; omega
          have HE' : Hid (decide (d < d') = decide (A < B)) := by
            have := cmp_digit (by omega) HE.out (by rw [← HD.out, ← HD'.out]; exact hdd)
            rw [← HD.out, ← HD'.out] at this
            exact this
          go_wp2_with fail
          go_quiet (fail)
          go_wp2_with fail
          go_quiet (fail)
          go_wp2_with fail
          go_ret
          exact ⟨ret_bool HE'.out, _, by rw [World.drewN_drewN, World.drewN_drewN]⟩
  · have h1 : decide (nd A < nd B) = decide (A < B) := by
      have h1 := @nd_mono A B
      have h2 := @nd_mono B A
      rw [Bool.eq_iff_iff]; simp only [decide_eq_true_eq]
      omega
    have H1 := Lib.hid h1
    clear h1
    have hq : ((nd A : Int) != (nd B : Int)) = true := by rw [bne_iff_ne]; omega
    clear hr hr'
    generalize nd A = m at *
    generalize nd B = m' at *
    go_enter Try.func102, Try.ntmps102
    go_wp2
    go_ret
    exact ⟨ret_bool H1.out, 0, rfl⟩

end Go.Proofs.Ytpojonfopoobpaa

namespace Go.Proofs.Ytpojonfopoobpaa
open Go.RowKit

/-- A byte that is read, behind a name. -/
theorem byte_cell {a : Option Addr} {n j : Nat} {f : Nat → Nat} {w : World} (hr : Rd .u8 w a n f) (hf : ∀ i, i < n → f i < 256) (hj : j < n) :
    ∃ b off d, a = some ⟨b, off, none⟩ ∧ w.cell? ⟨b, off + j, none⟩ = some (.int .u8 (d : Nat)) ∧ d < 256 ∧ Hid (d = f j) := by
  obtain ⟨b, off, rfl, h⟩ := hr j hj
  exact ⟨b, off, _, rfl, h, hf j hj, rfl⟩

set_option maxHeartbeats 400000 in
theorem read_any (a : Option Addr) (n c : Nat) (f : Nat → Nat) (w : World) (hn : n ≤ 1000000) (hf : ∀ i, i < n → f i < 256) (hr : Rd .u8 w a n f) :
    Calls Try.prog 77 #[.slice a n c] w (RetNum w (be f n)) := by
  have hmk := make_num (n / 2 + 1) (by omega)
  rw [show ((n / 2 + 1 : Nat) : Int) = (n : Int) / 2 + 1 from by omega] at hmk
  obtain ⟨N, hN⟩ : ∃ N, N = be f n := ⟨_, rfl⟩
  have HL : Hid (N < 65536 ^ (n / 2 + 1)) := by rw [hN]; exact nd_le_of_bytes (be_lt hf)
  have HL2 : Hid (N < 256 ^ n) := by rw [hN]; exact be_lt hf
  have HB : Hid (∀ i, i < n → dg 256 N i = f (n - 1 - i)) := by rw [hN]; exact be_dg hf
  rw [← hN]
  clear hN
  go_enter Try.func77, Try.ntmps77
  go_wp2
  go_loopw [4] (fun i wr => ∃ k : Nat, k ≤ n ∧ i = .int .i64 k ∧ Own .i64 wr w.heap.size (n / 2 + 1) (dg 65536 (N % 256 ^ k)) ∧ Upd0 w wr) (fun i _ => n - (intOf i).toNat)
  case atStart => exact ⟨0, Nat.zero_le _, rfl, (Own.made .i64 w (n / 2 + 1) _).congr (fun j hj => by rw [Nat.pow_zero, Nat.mod_one, dg_of_lt (Nat.pow_pos (by omega))]), (Upd.refl _ _).alloc _⟩
  case round =>
    obtain ⟨k, hk, rfl, hown, hu⟩ := hrel
    clear hmk
    by_cases hlt : k < n
    · obtain ⟨b, off, d, rfl, hcell, hd, HD⟩ := byte_cell (hr.keep hu) hf (show n - 1 - k < n by omega)
      have HD : Hid (d = dg 256 N k) := by show _ = _; rw [HD.out, HB.out k hlt]
      have hcell2 := hown.cell (k / 2) (by omega)
      have hfree2 := hown.free (k / 2) (by omega)
      have HS : Hid (∀ j, dg 65536 (N % 256 ^ (k + 1)) j = if j = k / 2 then dg 65536 (N % 256 ^ k) j + (if k % 2 = 1 then d * 256 else d) else dg 65536 (N % 256 ^ k) j) := by
        rw [HD.out]; exact dg_next_byte N k
      have ho2 : dg 65536 (N % 256 ^ k) (k / 2) < 65536 := dg_lt (by omega) _ _
      obtain ⟨o, HO⟩ : ∃ o, Hid (o = dg 65536 (N % 256 ^ k) (k / 2)) := ⟨_, rfl⟩
      rw [← HO.out] at hcell2 ho2
      by_cases h2 : k % 2 = 1
      · have h2' : ((k : Int) % 2 == 1) = true := by rw [beq_iff_eq]; omega
        go_wp2
        go_roundw
        case rel => exact ⟨k + 1, by omega, by go_num, by
          have := (hown.set (i := k / 2) (by omega) (o + d * 256))
          rw [show ((o + d * 256 : Nat) : Int) = (o : Int) + (d : Int) * 256 from by omega] at this
          refine this.congr fun j hj => ?_
          rw [HS.out j]
          by_cases e : j = k / 2
          · rw [if_pos e, if_pos e, if_pos h2, e, HO.out]
          · rw [if_neg e, if_neg e], hu.setCell _ _ (fun h => by simp at h)⟩
        case measure => simp [intOf]; omega
      · have h2' : ((k : Int) % 2 == 1) = false := by rw [beq_eq_false_iff_ne]; omega
        go_wp2
        go_roundw
        case rel => exact ⟨k + 1, by omega, by go_num, by
          have := (hown.set (i := k / 2) (by omega) (o + d))
          rw [show ((o + d : Nat) : Int) = (o : Int) + (d : Int) from by omega] at this
          refine this.congr fun j hj => ?_
          rw [HS.out j]
          by_cases e : j = k / 2
          · rw [if_pos e, if_pos e, if_neg h2, e, HO.out]
          · rw [if_neg e, if_neg e], hu.setCell _ _ (fun h => by simp at h)⟩
        case measure => simp [intOf]; omega
    · have e : k = n := by omega
      subst e
      have HR : Rd .i64 wr (some ⟨w.heap.size, 0, none⟩) (k / 2 + 1) (dg 65536 N) := hown.rd.congr (fun j hj => by rw [Nat.mod_eq_of_lt HL2.out])
      clear hown
      go_wp2_with fail
      refine (trimmed_any _ _ _ _ _ (by omega) (Nat.le_refl _) HL.out HR).mono ?_
      rintro e w' ⟨rfl, rfl⟩
      go_wp2_with fail
      go_ret
      exact ⟨_, _, rfl, ⟨(nd_le_iff _ _).2 HL.out, HR.le ((nd_le_iff _ _).2 HL.out), fun e => by cases e⟩, hu⟩
end Go.Proofs.Ytpojonfopoobpaa

namespace Go.Proofs.Ytpojonfopoobpaa
open Go.RowKit

/-- A quotient and what is left, a number below the base of digits. -/
def RetDiv (w : World) (Q R : Nat) (e : Ending) (w' : World) : Prop :=
  ∃ a c, e = .returned (.tuple #[.slice a (nd Q) c, .int .i64 R]) ∧ Sl .i64 w' a (nd Q) c (dg 65536 Q) ∧ Upd0 w w'

set_option maxHeartbeats 400000 in
theorem divided_any (a : Option Addr) (c N d : Nat) (w : World) (hn : nd N ≤ 1000000) (hd0 : 0 < d) (hd : d < 65536) (hr : Rd .i64 w a (nd N) (dg 65536 N)) :
    Calls Try.prog 146 #[.slice a (nd N) c, .int .i64 d] w (RetDiv w (N / d) (N % d)) := by
  have HL : Hid (N < 65536 ^ nd N) := lt_pow_nd N
  have HQ : Hid (N / d < 65536 ^ nd N) := Nat.lt_of_le_of_lt (Nat.div_le_self _ _) (lt_pow_nd N)
  generalize nd N = m at *
  have hmk := make_num m (by omega)
  go_enter Try.func146, Try.ntmps146
  go_wp2
  go_loopw [7, 8] (fun t i wr => ∃ k r : Nat, k ≤ m ∧ i = .int .i64 ((k : Int) - 1) ∧ t = .int .i64 r ∧ r < d ∧ Hid (r = N / 65536 ^ k % d) ∧ Own .i64 wr w.heap.size m (fun j => if k ≤ j then dg 65536 (N / d) j else 0) ∧ Upd0 w wr) (fun _ i _ => (intOf i + 1).toNat)
  case atStart => exact ⟨m, 0, Nat.le_refl _, rfl, rfl, hd0, by show _ = _; rw [Nat.div_eq_of_lt HL.out, Nat.zero_mod], (Own.made .i64 w m _).congr (fun j hj => by rw [if_neg (by omega)]), (Upd.refl _ _).alloc _⟩
  case round =>
    obtain ⟨k, r, hk, rfl, rfl, hrd, HR, hown, hu⟩ := hrel
    clear hmk
    by_cases h0 : k = 0
    · subst h0
      have HR2 : Rd .i64 wr (some ⟨w.heap.size, 0, none⟩) m (dg 65536 (N / d)) := hown.rd.congr (fun j hj => by rw [if_pos (Nat.zero_le _)])
      have HR3 : Hid (r = N % d) := by have := HR.out; show r = N % d; simpa using this
      clear hown
      go_wp2_with fail
      refine (trimmed_any _ _ _ _ _ (by omega) (Nat.le_refl _) HQ.out HR2).mono ?_
      rintro e w' ⟨rfl, rfl⟩
      go_wp2_with fail
      go_ret2
      exact ⟨_, _, by rw [HR3.out]; rfl, ⟨(nd_le_iff _ _).2 HQ.out, HR2.le ((nd_le_iff _ _).2 HQ.out), fun e => by cases e⟩, hu⟩
    · obtain ⟨j, rfl⟩ : ∃ j, k = j + 1 := ⟨k - 1, by omega⟩
      obtain ⟨b, off, g, rfl, hcell, hg, HG⟩ := num_cell (hr.keep hu) (show j < m by omega)
      have hcell2 := hown.cell j (by omega)
      have hfree2 := hown.free j (by omega)
      have HS := dg_quot (b := 65536) (N := N) (d := d) (j := j) (by omega) hd0
      rw [← HR.out, ← HG.out] at HS
      have HS := Lib.hid HS
      have hb1 : r * 65536 + g < d * 65536 := by
        have : (r + 1) * 65536 ≤ d * 65536 := Nat.mul_le_mul_right _ hrd
        omega
      have hdz : ¬ (d : Int) = 0 := by omega
      go_wp2
      go_roundw
      case rel => exact ⟨j, (r * 65536 + g) % d, by omega, rfl, by go_num, Nat.mod_lt _ hd0, HS.out.2.symm, by
        have h := hown.set (i := j) (by omega) ((r * 65536 + g) / d)
        rw [show (((r * 65536 + g) / d : Nat) : Int) = ((r : Int) * 65536 + (g : Int)) / (d : Int) from by simp] at h
        refine h.congr fun i hi => ?_
        by_cases e : i = j
        · subst e; rw [if_pos rfl, if_pos (Nat.le_refl _), HS.out.1]
        · rw [if_neg e]
          by_cases e2 : j + 1 ≤ i
          · rw [if_pos e2, if_pos (by omega)]
          · rw [if_neg e2, if_neg (by omega)], hu.setCell _ _ (fun h => by simp at h)⟩
      case measure => simp [intOf]

end Go.Proofs.Ytpojonfopoobpaa

namespace Go.Proofs.Ytpojonfopoobpaa
open Go.RowKit

theorem eql_nil_u8 (a : Option Addr) (n c n' c' : Nat) (w : World) : (binOp .eql 22 (.slice a n c) (.slice none n' c')).run Try.prog w = .ok (.bool a.isNone) w := Lib.run_eql_slice_nil w _ _ a n c n' c' Try.underlying22
theorem info_u8 : (Try.prog.info? 5).map (fun i => (i.zero, i.size, i.bytes)) = some (some (.int .u8 0), 1, 1) := by kernel_rfl
theorem info_uint : (Try.prog.info? 63).map (fun i => (i.zero, i.size, i.bytes)) = some (some (.int .u64 0), 1, 8) := by kernel_rfl
theorem info_int : (Try.prog.info? 3).map (fun i => (i.zero, i.size, i.bytes)) = some (some (.int .i64 0), 1, 8) := by kernel_rfl

set_option maxHeartbeats 400000 in
theorem clone_any (a : Option Addr) (n c : Nat) (f : Nat → Nat) (w : World) (hn : n ≤ 1048576) (hs : Sl .u8 w a n c f) :
    Calls Try.prog 57 #[.slice a n c] w (RetBytes w n f) := by
  cases a with
  | none =>
    obtain rfl := hs.nil rfl
    obtain rfl : n = 0 := by have := hs.le; omega
    have hq := eql_nil_u8 none 0 0 0 0
    go_enter Try.func57, Try.ntmps57
    go_wp2
    go_ret
    exact ⟨none, 0, rfl, .empty _ _ _, .refl _ _⟩
  | some ad =>
    have hq := eql_nil_u8 (some ad) n c 0 0
    go_enter Try.func57, Try.ntmps57
    go_wp2_with (at_builtin; refine wpList_append_ints rfl (.tmp 5) (.tmp 6) 22 rfl w.heap.size 5 .u8 1 Try.underlying22 info_u8 (some ⟨w.heap.size, 0, none⟩) 0 0 (fun _ => 0) rfl (by exact Grow.made .u8 _ w w.heap.size #[] 0 _ (Nat.le_refl _) (by simp [maxLen]) rfl) ad n c f rfl (by exact hs.rd.keep ((Upd.refl _ _).alloc _)) (by omega) (by omega) (by simp) ?_; intro a' c' w' hg hu)
    go_ret
    exact ⟨a', c', by simp, by
      have := hg.sl
      rw [Nat.zero_add] at this
      exact this.congr fun i hi => by simp, ((Upd.refl _ w).alloc _).then hu (fun i hi h => by simp [Value.ownBlock] at h; omega)⟩

theorem close_trim {f : Nat → Nat} {n k : Nat} {w w' : World} {e : Ending} (hf : ∀ i, i < n → f i < 256) (hk : k ≤ n) (h0 : ∀ i, i < k → f i = 0) (h1 : k < n → f k ≠ 0)
    (h : RetBytes w (n - k) (fun i => f (k + i)) e w') : RetBytes w (nb (be f n)) (fun i => dg 256 (be f n) (nb (be f n) - 1 - i)) e w' := by
  rw [nb_of_zeros hf hk h0 h1]
  obtain ⟨a, c, e, hs, hu⟩ := h
  refine ⟨a, c, e, hs.congr fun i hi => ?_, hu⟩
  rw [be_dg hf _ (by omega)]
  congr 1; omega

set_option maxHeartbeats 400000 in
theorem itrimmed_any (a : Option Addr) (n c : Nat) (f : Nat → Nat) (w : World) (hn : n ≤ 1048576) (hf : ∀ i, i < n → f i < 256) (hs : Sl .u8 w a n c f) :
    Calls Try.prog 120 #[.slice a n c] w (RetBytes w (nb (be f n)) (fun i => dg 256 (be f n) (nb (be f n) - 1 - i))) := by
  have hle := hs.le
  have HF := Lib.hid hf
  clear hf
  go_enter Try.func120, Try.ntmps120
  go_wp2
  go_loop [3] (fun i => ∃ k : Nat, k ≤ n ∧ i = .int .i64 k ∧ Hid (∀ i, i < k → f i = 0)) (fun i => n - (intOf i).toNat)
  case atStart => exact ⟨0, Nat.zero_le _, rfl, fun i hi => absurd hi (Nat.not_lt_zero i)⟩
  case round =>
    obtain ⟨k, hk, rfl, HZ⟩ := hrel
    by_cases hlt : k < n
    · obtain ⟨b, off, d, rfl, hcell, hd, HD⟩ := byte_cell hs.rd HF.out hlt
      by_cases hz : d = 0
      · subst hz
        go_wp2
        go_round
        case rel => exact ⟨k + 1, by omega, by go_num, fun i hi => by
          by_cases e : i = k
          · subst e; exact HD.out.symm
          · exact HZ.out i (by omega)⟩
        case measure => simp [intOf]; omega
      · have hz' : ((d : Int) == 0) = false := by simpa using hz
        have hkc : ¬ c = k := by omega
        have HS : Sl .u8 w (some ⟨b, off + k, none⟩) (n - k) (c - k) (fun i => f (k + i)) := ⟨by omega, hs.rd.drop (by omega), fun e => by cases e⟩
        have HQ := fun e w' => close_trim (w := w) (w' := w') (e := e) HF.out hk HZ.out (fun _ => by rw [← HD.out]; exact hz)
        have HQ := Lib.hid HQ
        clear HD hs
        go_wp2_with fail
        refine (clone_any _ _ _ _ _ (by omega) HS).mono ?_
        rintro e w' ⟨a', c', rfl, h1, h2⟩
        go_wp2_with fail
        go_ret
        exact HQ.out _ _ ⟨a', c', rfl, h1, h2⟩
    · obtain rfl : k = n := by omega
      have HQ := fun e w' => close_trim (w := w) (w' := w') (e := e) HF.out hk HZ.out (fun h => by omega)
      have HQ := Lib.hid HQ
      rw [Nat.sub_self] at HQ
      by_cases hkc : c = k
      · subst hkc
        have HS : Sl .u8 w a 0 0 (fun i => f (c + i)) := ⟨by omega, .nil _ _ _, fun _ => rfl⟩
        go_wp2_with fail
        refine (clone_any _ _ _ _ _ (by omega) HS).mono ?_
        rintro e w' ⟨a', c', rfl, h1, h2⟩
        go_wp2_with fail
        go_ret
        exact HQ.out _ _ ⟨a', c', rfl, h1, h2⟩
      · cases a with
        | none => exact absurd (hs.nil rfl) (by omega)
        | some ad =>
          have HS : Sl .u8 w (some (ad.add k)) 0 (c - k) (fun i => f (k + i)) := ⟨by omega, .nil _ _ _, fun e => by cases e⟩
          go_wp2_with fail
          refine (clone_any _ _ _ _ _ (by omega) HS).mono ?_
          rintro e w' ⟨a', c', rfl, h1, h2⟩
          go_wp2_with fail
          go_ret
          exact HQ.out _ _ ⟨a', c', rfl, h1, h2⟩
end Go.Proofs.Ytpojonfopoobpaa
