/-
  The words in which the contracts speak of memory: what a call may have written (Upd), a slice that is read (Rd), a row of cells that is written (Own), a number of the package (NatAt).
-/
import Derived.Test.YtmbghmjllipbhaaPlain
import Derived.Test.YtmbghmjllipbhaaRows
import Derived.WalkKit
import Derived.WalkLawsBesides
import Derived.BigQuiet
import Derived.BigRegion
import Derived.Deep.QuietTactic
import Derived.Deep.Quiet
import Derived.Deep.LoopGhost
import Derived.StillTailTactics
import Derived.Lib.Hide
namespace Go.Proofs.Ytmbghmjllipbhaa
open Go.RowKit

/-- A sum that fits stays as it is. -/
theorem w64 (x : Int) (h1 : -9223372036854775808 ≤ x) (h2 : x ≤ 9223372036854775807) : IntKind.i64.wrap x = x := IntWalk.i64_in x ⟨h1, h2⟩

/-- Of the blocks that were there only those of S may have changed. -/
structure Upd (S : Nat → Prop) (w w' : World) : Prop where
  os : w'.os = w.os
  tape : w'.tape = w.tape
  output : w'.output = w.output
  size : w.heap.size ≤ w'.heap.size
  block : ∀ k, k < w.heap.size → ¬ S k → w'.heap[k]? = w.heap[k]?

/-- Nothing that was there has changed. -/
abbrev Upd0 (w w' : World) : Prop := Upd (fun _ => False) w w'

theorem Upd.refl (S : Nat → Prop) (w : World) : Upd S w w := ⟨rfl, rfl, rfl, Nat.le_refl _, fun _ _ _ => rfl⟩
theorem Upd.trans {S : Nat → Prop} {a b c : World} (h : Upd S a b) (k : Upd S b c) : Upd S a c :=
  ⟨k.os.trans h.os, k.tape.trans h.tape, k.output.trans h.output, Nat.le_trans h.size k.size,
   fun i hi hs => (k.block i (Nat.lt_of_lt_of_le hi h.size) hs).trans (h.block i hi hs)⟩
/-- A second call whose own blocks are new, or of S. -/
theorem Upd.then {S T : Nat → Prop} {a b c : World} (h : Upd S a b) (k : Upd T b c) (hT : ∀ i, i < a.heap.size → T i → S i) : Upd S a c :=
  ⟨k.os.trans h.os, k.tape.trans h.tape, k.output.trans h.output, Nat.le_trans h.size k.size,
   fun i hi hs => (k.block i (Nat.lt_of_lt_of_le hi h.size) (fun ht => hs (hT i hi ht))).trans (h.block i hi hs)⟩
theorem Upd.mono {S T : Nat → Prop} {a b : World} (h : Upd S a b) (hST : ∀ i, i < a.heap.size → S i → T i) : Upd T a b :=
  ⟨h.os, h.tape, h.output, h.size, fun i hi hs => h.block i hi fun hS => hs (hST i hi hS)⟩
theorem Upd.drew {S : Nat → Prop} {a w : World} (h : Upd S a w) : Upd S a w.drew := ⟨h.os, h.tape, h.output, h.size, h.block⟩
theorem Upd.drewN {S : Nat → Prop} {a w : World} (h : Upd S a w) (n : Nat) : Upd S a (w.drewN n) := ⟨h.os, h.tape, h.output, h.size, h.block⟩
theorem Upd.of_drew {S : Nat → Prop} {a w : World} (h : Upd S a.drew w) : Upd S a w := ⟨h.os, h.tape, h.output, h.size, h.block⟩
theorem Upd.of_drewN {S : Nat → Prop} {a w : World} {n : Nat} (h : Upd S (a.drewN n) w) : Upd S a w := ⟨h.os, h.tape, h.output, h.size, h.block⟩
theorem Upd.alloc {S : Nat → Prop} {a w : World} (h : Upd S a w) (o : Obj) : Upd S a (w.alloc o) :=
  h.then (T := fun _ => False) ⟨rfl, rfl, rfl, by simp, fun k hk _ => Below.heap_alloc _ _ _ hk⟩ (fun _ _ h => h.elim)
theorem Upd.setCell {S : Nat → Prop} {a w : World} (h : Upd S a w) (p : Addr) (u : Value) (hp : p.block < a.heap.size → S p.block) : Upd S a (w.setCell p u) :=
  h.then (T := fun k => k = p.block) ⟨rfl, rfl, rfl, by simp, fun k _ hk => Below.heap_setCell _ _ _ _ hk⟩ (fun _ hi h => by subst h; exact hp hi)
theorem Upd.below {a b : World} (h : Upd0 a b) : Below a.heap.size a b := ⟨h.os, h.tape, h.output, h.size, fun k hk => h.block k hk id⟩
theorem Upd.of_below {a b : World} (h : Below a.heap.size a b) : Upd0 a b := ⟨h.os, h.tape, h.output, h.size, fun k hk _ => h.block k hk⟩
theorem Upd.cell {S : Nat → Prop} {a b : World} (h : Upd S a b) {p : Addr} (hs : ¬ S p.block) {v : Value} (hc : a.cell? p = some v) : b.cell? p = some v :=
  (World.cell?_of_block (w := a) (h.block p.block (World.block_lt_of_cell? _ _ hc) hs)).trans hc
theorem Upd.frozen {S : Nat → Prop} {a b : World} (h : Upd S a b) {p : Addr} (hs : ¬ S p.block) (hp : p.block < a.heap.size) : b.frozen? p = a.frozen? p :=
  World.frozen?_of_block (w := a) (h.block p.block hp hs)

/-- The n elements of a slice that begins at a are f 0, f 1, .. -/
def Rd (k : IntKind) (w : World) (a : Option Addr) (n : Nat) (f : Nat → Nat) : Prop :=
  ∀ i, i < n → ∃ b off, a = some ⟨b, off, none⟩ ∧ w.cell? ⟨b, off + i, none⟩ = some (.int k (f i))
theorem Rd.open {k : IntKind} {w : World} {a : Option Addr} {n : Nat} {f : Nat → Nat} (h : Rd k w a n f) (hn : 0 < n) :
    ∃ b off, a = some ⟨b, off, none⟩ ∧ ∀ i, i < n → w.cell? ⟨b, off + i, none⟩ = some (.int k (f i)) := by
  obtain ⟨b, off, rfl, _⟩ := h 0 hn
  refine ⟨b, off, rfl, fun i hi => ?_⟩
  obtain ⟨b', off', e, hc⟩ := h i hi
  cases e
  exact hc
theorem Rd.nil {k : IntKind} (w : World) (a : Option Addr) (f : Nat → Nat) : Rd k w a 0 f := fun i hi => absurd hi (Nat.not_lt_zero i)
theorem Rd.mk {k : IntKind} {w : World} {b off n : Nat} {f : Nat → Nat} (h : ∀ i, i < n → w.cell? ⟨b, off + i, none⟩ = some (.int k (f i))) : Rd k w (some ⟨b, off, none⟩) n f :=
  fun i hi => ⟨b, off, rfl, h i hi⟩
theorem Rd.congr {k : IntKind} {w : World} {a : Option Addr} {n : Nat} {f g : Nat → Nat} (h : Rd k w a n f) (e : ∀ i, i < n → f i = g i) : Rd k w a n g :=
  fun i hi => by obtain ⟨b, off, h1, h2⟩ := h i hi; exact ⟨b, off, h1, by rw [h2, e i hi]⟩
theorem Rd.le {k : IntKind} {w : World} {a : Option Addr} {n m : Nat} {f : Nat → Nat} (h : Rd k w a n f) (hm : m ≤ n) : Rd k w a m f :=
  fun i hi => h i (Nat.lt_of_lt_of_le hi hm)
theorem Rd.keep {k : IntKind} {w w' : World} {a : Option Addr} {n : Nat} {f : Nat → Nat} (h : Rd k w a n f) (hu : Upd0 w w') : Rd k w' a n f :=
  fun i hi => by obtain ⟨b, off, h1, h2⟩ := h i hi; exact ⟨b, off, h1, hu.cell (p := ⟨b, off + i, none⟩) id h2⟩
theorem Rd.keepS {S : Nat → Prop} {k : IntKind} {w w' : World} {b off : Nat} {n : Nat} {f : Nat → Nat} (h : Rd k w (some ⟨b, off, none⟩) n f) (hu : Upd S w w') (hb : ¬ S b) : Rd k w' (some ⟨b, off, none⟩) n f :=
  fun i hi => by obtain ⟨b', off', h1, h2⟩ := h i hi; cases h1; exact ⟨b, off, rfl, hu.cell (p := ⟨b, off + i, none⟩) hb h2⟩
/-- The part of a slice behind its first m elements. -/
theorem Rd.drop {k : IntKind} {w : World} {b off n m : Nat} {f : Nat → Nat} (h : Rd k w (some ⟨b, off, none⟩) n f) (_hm : m ≤ n) : Rd k w (some ⟨b, off + m, none⟩) (n - m) (fun i => f (m + i)) :=
  fun i hi => by
    obtain ⟨b', off', h1, h2⟩ := h (m + i) (by omega)
    cases h1
    exact ⟨b, off + m, rfl, by rw [Nat.add_assoc]; exact h2⟩

/-- The first n cells of block b are f 0, f 1, .., and may be written. -/
structure Own (k : IntKind) (w : World) (b n : Nat) (f : Nat → Nat) : Prop where
  cell : ∀ i, i < n → w.cell? ⟨b, i, none⟩ = some (.int k (f i))
  free : ∀ i, i < n → w.frozen? ⟨b, i, none⟩ = false
theorem Own.congr {k : IntKind} {w : World} {b n : Nat} {f g : Nat → Nat} (h : Own k w b n f) (e : ∀ i, i < n → f i = g i) : Own k w b n g :=
  ⟨fun i hi => by rw [h.cell i hi, e i hi], h.free⟩
theorem Own.le {k : IntKind} {w : World} {b n m : Nat} {f : Nat → Nat} (h : Own k w b n f) (hm : m ≤ n) : Own k w b m f :=
  ⟨fun i hi => h.cell i (Nat.lt_of_lt_of_le hi hm), fun i hi => h.free i (Nat.lt_of_lt_of_le hi hm)⟩
theorem Own.keep {S : Nat → Prop} {k : IntKind} {w w' : World} {b n : Nat} {f : Nat → Nat} (h : Own k w b n f) (hu : Upd S w w') (hb : ¬ S b) : Own k w' b n f :=
  ⟨fun i hi => hu.cell (p := ⟨b, i, none⟩) hb (h.cell i hi),
   fun i hi => (hu.frozen (p := ⟨b, i, none⟩) hb (World.block_lt_of_cell? _ _ (h.cell i hi))).trans (h.free i hi)⟩
theorem Own.keep0 {k : IntKind} {w w' : World} {b n : Nat} {f : Nat → Nat} (h : Own k w b n f) (hu : Upd0 w w') : Own k w' b n f := h.keep hu id
theorem Own.drew {k : IntKind} {w : World} {b n : Nat} {f : Nat → Nat} (h : Own k w b n f) : Own k w.drew b n f := ⟨h.cell, h.free⟩
theorem Own.drewN {k : IntKind} {w : World} {b n : Nat} {f : Nat → Nat} (h : Own k w b n f) (j : Nat) : Own k (w.drewN j) b n f := ⟨h.cell, h.free⟩
theorem Own.set {k : IntKind} {w : World} {b n : Nat} {f : Nat → Nat} (h : Own k w b n f) {i : Nat} (hi : i < n) (v : Nat) :
    Own k (w.setCell ⟨b, i, none⟩ (.int k v)) b n (fun j => if j = i then v else f j) := by
  refine ⟨fun j hj => ?_, fun j hj => by simpa using h.free j hj⟩
  by_cases e : j = i
  · subst e; rw [if_pos rfl]; exact World.cell?_setCell_same _ _ _ (h.cell j hj)
  · rw [if_neg e, World.cell?_setCell_other _ _ _ _ (by intro h'; cases h'; exact e rfl)]; exact h.cell j hj
theorem Own.rd {k : IntKind} {w : World} {b n : Nat} {f : Nat → Nat} (h : Own k w b n f) : Rd k w (some ⟨b, 0, none⟩) n f :=
  .mk fun i hi => by rw [Nat.zero_add]; exact h.cell i hi
theorem Own.lt {k : IntKind} {w : World} {b n : Nat} {f : Nat → Nat} (h : Own k w b n f) (hn : 0 < n) : b < w.heap.size :=
  World.block_lt_of_cell? _ _ (h.cell 0 hn)
theorem Own.new {k : IntKind} (w : World) (c : Array Value) (t n : Nat) (f : Nat → Nat) (h : ∀ i, i < n → c[i]? = some (.int k (f i))) : Own k (w.alloc (.cells c t)) w.heap.size n f :=
  ⟨fun i hi => by rw [World.cell?_alloc_new]; exact h i hi, fun i _ => by simp⟩

/-- make of a slice of integers. -/
theorem run_make_ints {P : Program} {t e : TypeId} {k : IntKind} {bytes : Nat} (ht : P.underlying t = some (.slice e)) (hi : (P.info? e).map (fun i => (i.zero, i.size, i.bytes)) = some (some (.int k 0), 1, bytes))
    (n c : Nat) (hn : n ≤ c) (hc : c ≤ 1048576) (hbytes : bytes ≤ 16) (w : World) :
    (Instr.makeSlice t (.int .i64 n) (.int .i64 c)).run P w = .ok (.slice (some ⟨w.heap.size, 0, none⟩) n c) (w.alloc (.cells (madeCells #[.int k 0] c) e)) := by
  obtain ⟨i, hi, h0, h1, h2⟩ := info_parts hi
  have hb : (i.bytes : Int) * (c : Int) ≤ 281474976710656 := by
    rw [h2]
    have h3 : bytes * c ≤ 16 * 1048576 := Nat.mul_le_mul hbytes hc
    have h4 : ((bytes * c : Nat) : Int) ≤ 281474976710656 := by omega
    rwa [Int.natCast_mul] at h4
  have h := run_make (P := P) w t e i (.int k 0) ht hi h0 .i64 .i64 n c (by omega) (by omega) hb (by omega)
  rw [h1] at h
  simpa [Value.cells] using h
theorem madeCells_at (k : IntKind) (c i : Nat) (h : i < c) : (madeCells #[.int k 0] c)[i]? = some (.int k ((0 : Nat) : Int)) := by
  simp [madeCells, h, Nat.mod_one]
theorem Own.made (k : IntKind) (w : World) (c e : Nat) : Own k (w.alloc (.cells (madeCells #[.int k 0] c) e)) w.heap.size c (fun _ => 0) :=
  .new w _ e c _ fun i hi => madeCells_at k c i hi

/-- A slice of n elements f 0, f 1, .. and capacity c. -/
structure Sl (k : IntKind) (w : World) (a : Option Addr) (n c : Nat) (f : Nat → Nat) : Prop where
  le : n ≤ c
  rd : Rd k w a n f
  nil : a = none → c = 0
theorem Sl.keep {k : IntKind} {w w' : World} {a : Option Addr} {n c : Nat} {f : Nat → Nat} (h : Sl k w a n c f) (hu : Upd0 w w') : Sl k w' a n c f := ⟨h.le, h.rd.keep hu, h.nil⟩
theorem Sl.congr {k : IntKind} {w : World} {a : Option Addr} {n c : Nat} {f g : Nat → Nat} (h : Sl k w a n c f) (e : ∀ i, i < n → f i = g i) : Sl k w a n c g := ⟨h.le, h.rd.congr e, h.nil⟩
theorem Own.sl {k : IntKind} {w : World} {b n : Nat} {f : Nat → Nat} (h : Own k w b n f) {c : Nat} (hc : n ≤ c) : Sl k w (some ⟨b, 0, none⟩) n c f := ⟨hc, h.rd, fun e => by cases e⟩
theorem Sl.empty (k : IntKind) (w : World) (f : Nat → Nat) : Sl k w none 0 0 f := ⟨Nat.le_refl _, .nil _ _ _, fun _ => rfl⟩

/-- The base of the package's limbs. -/
def W64 : Nat := 18446744073709551616
theorem W64_eq : W64 = 2 ^ 64 := rfl
theorem W64_pos : 0 < W64 := by decide
theorem limb_lt (X i : Nat) : dg W64 X i < 18446744073709551616 := dg_lt W64_pos X i
/-- At p lies a number of the package: n limbs at the head of block b, which has c cells; X is the number. -/
structure NatAt (w : World) (p b c n X : Nat) : Prop where
  hd : w.cell? ⟨p, 0, none⟩ = some (.slice (some ⟨b, 0, none⟩) n c)
  hf : w.frozen? ⟨p, 0, none⟩ = false
  le : n ≤ c
  sm : c ≤ 65536
  lt : X < W64 ^ n
  own : Own .u64 w b n (dg W64 X)
  room : ∀ i, i < c → (w.cell? ⟨b, i, none⟩).isSome = true
  free : ∀ i, i < c → w.frozen? ⟨b, i, none⟩ = false
  ne : p ≠ b
  hb : b < w.heap.size
theorem NatAt.hp {w : World} {p b c n X : Nat} (h : NatAt w p b c n X) : p < w.heap.size := World.block_lt_of_cell? _ _ h.hd
theorem NatAt.keep {S : Nat → Prop} {w w' : World} {p b c n X : Nat} (h : NatAt w p b c n X) (hu : Upd S w w') (h1 : ¬ S p) (h2 : ¬ S b) : NatAt w' p b c n X where
  hd := hu.cell (p := ⟨p, 0, none⟩) h1 h.hd
  hf := (hu.frozen (p := ⟨p, 0, none⟩) h1 h.hp).trans h.hf
  le := h.le
  sm := h.sm
  lt := h.lt
  own := h.own.keep hu h2
  room := fun i hi => by
    obtain ⟨v, hv⟩ := Option.isSome_iff_exists.1 (h.room i hi)
    rw [hu.cell (p := ⟨b, i, none⟩) h2 hv]; rfl
  free := fun i hi => (hu.frozen (p := ⟨b, i, none⟩) h2 h.hb).trans (h.free i hi)
  ne := h.ne
  hb := Nat.lt_of_lt_of_le h.hb hu.size
theorem NatAt.keep0 {w w' : World} {p b c n X : Nat} (h : NatAt w p b c n X) (hu : Upd0 w w') : NatAt w' p b c n X := h.keep hu id id
theorem NatAt.drewN {w : World} {p b c n X : Nat} (h : NatAt w p b c n X) (k : Nat) : NatAt (w.drewN k) p b c n X := h.keep0 ((Upd.refl _ _).drewN k)
theorem NatAt.drew {w : World} {p b c n X : Nat} (h : NatAt w p b c n X) : NatAt w.drew p b c n X := h.keep0 ((Upd.refl _ _).drew)
/-- The block of a number that may have got new memory. -/
def NewB (w : World) (b b' : Nat) : Prop := b' = b ∨ w.heap.size ≤ b'

/-- Bytes are returned: n of them. -/
def RetBytes (w : World) (n : Nat) (f : Nat → Nat) (e : Ending) (w' : World) : Prop :=
  ∃ a c, e = .returned (.slice a n c) ∧ Sl .u8 w' a n c f ∧ Upd0 w w'
/-- A number of the reference is returned. -/
def RetNum (w : World) (N : Nat) (e : Ending) (w' : World) : Prop :=
  ∃ a c, e = .returned (.slice a (nd N) c) ∧ Sl .i64 w' a (nd N) c (dg 65536 N) ∧ Upd0 w w'
end Go.Proofs.Ytmbghmjllipbhaa
