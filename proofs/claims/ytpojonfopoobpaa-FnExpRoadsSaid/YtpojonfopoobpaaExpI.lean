/-
  Contract: Exp.
-/
import Derived.Test.YtpojonfopoobpaaMulI
import Derived.Deep.DeepCutAuto
import Derived.Deep.CutBlock
namespace Go.Proofs.Ytpojonfopoobpaa
open Go.RowKit

theorem and15 {x : Nat} (hx : x < 256) : bits .and .u8 (x : Int) 15 = ((x % 16 : Nat) : Int) := by
  have h : (BitVec.ofInt 8 (x : Int) &&& BitVec.ofInt 8 15).toNat = x % 16 := by
    rw [BitVec.toNat_and, BitVec.ofInt_natCast, BitVec.toNat_ofNat]
    show x % 2 ^ 8 &&& 15 = _
    rw [Nat.mod_eq_of_lt hx]
    exact Nat.and_two_pow_sub_one_eq_mod x 4
  show IntKind.u8.wrap ((BitVec.ofInt 8 (x : Int) &&& BitVec.ofInt 8 15).toNat : Int) = _
  rw [h, IntWalk.u8_in _ (by omega)]
/-- The table while it is made: the entries up to j stand for the powers of X, the others are new. -/
structure TabI (w : World) (tb n j X M : Nat) (pf bf : Nat → Nat) : Prop where
  cell : ∀ i, i < 15 → w.cell? ⟨tb, i, none⟩ = some (.pointer (some ⟨pf i, 0, none⟩))
  old : ∀ i, j < i → i < 15 → NatAt w (pf i) (bf i) 32 0 0
  done : ∀ i, i ≤ j → i < 15 → ∃ b c, NatAt w (pf i) b c n (X ^ (i + 1) * W64 ^ n % M) ∧ (b = bf i ∨ tb < b)
  lt : tb < w.heap.size
theorem TabI.next {w w' : World} {tb n j X M ba : Nat} {pf bf : Nat → Nat} (h : TabI w tb n j X M pf bf) (hpf : ∀ i, pf i = ba + 2 * i + 1) (hbf : ∀ i, bf i = ba + 2 * i) (htb : tb = ba + 30) (hj : j + 1 < 15)
    (hg : Grown w (pf (j + 1)) (bf (j + 1)) n (X ^ (j + 1 + 1) * W64 ^ n % M) w') : TabI w' tb n (j + 1) X M pf bf := by
  obtain ⟨b', c', hN, hb, hu⟩ := hg
  have h1 := hpf (j + 1)
  have h2 := hbf (j + 1)
  have hl := h.lt
  refine ⟨fun i hi => hu.cell (p := ⟨tb, i, none⟩) (by show ¬ (tb = _ ∨ tb = _); omega) (h.cell i hi), fun i hi hi2 => ?_, fun i hi hi2 => ?_, Nat.lt_of_lt_of_le hl hu.size⟩
  · have h3 := hpf i
    have h4 := hbf i
    exact (h.old i (by omega) hi2).keep hu (by omega) (by omega)
  · by_cases e : i = j + 1
    · subst e
      exact ⟨b', c', hN, by rcases hb with h' | h'; exact .inl h'; exact .inr (by omega)⟩
    · obtain ⟨b, c, h5, h6⟩ := h.done i (by omega) hi2
      have h3 := hpf i
      have h4 := hbf i
      exact ⟨b, c, h5.keep hu (by omega) (by omega), h6⟩
theorem TabI.drew {w : World} {tb n j X M : Nat} {pf bf : Nat → Nat} (h : TabI w tb n j X M pf bf) : TabI w.drew tb n j X M pf bf :=
  ⟨h.cell, fun i h1 h2 => (h.old i h1 h2).drew, fun i h1 h2 => by obtain ⟨b, c, h3, h4⟩ := h.done i h1 h2; exact ⟨b, c, h3.drew, h4⟩, h.lt⟩
theorem ModAt.drew {w : World} {s mp n M : Nat} (h : ModAt w s mp n M) : ModAt w.drew s mp n M := h.keep0 ((Upd.refl _ _).drew)
/-- The table, its blocks from lo to hi. -/
structure TabR (w : World) (tb lo hi n X M : Nat) (pf : Nat → Nat) : Prop where
  cell : ∀ i, i < 15 → w.cell? ⟨tb, i, none⟩ = some (.pointer (some ⟨pf i, 0, none⟩))
  nat : ∀ i, i < 15 → ∃ b c, NatAt w (pf i) b c n (X ^ (i + 1) * W64 ^ n % M) ∧ lo ≤ b ∧ b < hi
  pp : ∀ i, i < 15 → lo ≤ pf i ∧ pf i < hi
  tt : lo ≤ tb ∧ tb < hi
theorem TabR.keep {S : Nat → Prop} {w w' : World} {tb lo hi n X M : Nat} {pf : Nat → Nat} (h : TabR w tb lo hi n X M pf) (hu : Upd S w w') (hS : ∀ k, lo ≤ k → k < hi → ¬ S k) : TabR w' tb lo hi n X M pf where
  cell := fun i hi => hu.cell (p := ⟨tb, i, none⟩) (hS _ h.tt.1 h.tt.2) (h.cell i hi)
  nat := fun i hi => by
    obtain ⟨b, c, h1, h2, h3⟩ := h.nat i hi
    exact ⟨b, c, h1.keep hu (hS _ (h.pp i hi).1 (h.pp i hi).2) (hS _ h2 h3), h2, h3⟩
  pp := h.pp
  tt := h.tt
theorem TabI.all {w : World} {tb n X M ba : Nat} {pf bf : Nat → Nat} (h : TabI w tb n 14 X M pf bf) (hpf : ∀ i, pf i = ba + 2 * i + 1) (hbf : ∀ i, bf i = ba + 2 * i) (htb : tb = ba + 30) : TabR w tb ba w.heap.size n X M pf where
  cell := h.cell
  nat := fun i hi => by
    obtain ⟨b, c, h1, h2⟩ := h.done i (by omega) hi
    have := hbf i
    exact ⟨b, c, h1, by omega, h1.hb⟩
  pp := fun i hi => by
    obtain ⟨b, c, h1, h2⟩ := h.done i (by omega) hi
    have := hpf i
    exact ⟨by omega, h1.hp⟩
  tt := ⟨by omega, h.lt⟩
/-- The state of the loops: out, tmp; the block sb stands as it was at w0. -/
def ExSt (w6 w0 : World) (p b n V pt hi sb : Nat) (PU : Nat → Prop) (wr : World) : Prop :=
  ∃ bo co bt ct U, NatAt wr p bo co n V ∧ NatAt wr pt bt ct n U ∧ PU U ∧ (bo = b ∨ hi ≤ bo) ∧ hi ≤ bt ∧ bo ≠ pt ∧ bo ≠ bt ∧ p ≠ bt ∧ sb ≠ bo ∧ sb ≠ bt ∧ sb < wr.heap.size ∧ (∀ i v, w0.cell? ⟨sb, i, none⟩ = some v → wr.cell? ⟨sb, i, none⟩ = some v) ∧ Upd (fun k => k = p ∨ k = b ∨ hi ≤ k) w6 wr
/-- What does not change in the loops. -/
structure ExC (w6 : World) (s mp p b n M pt hi sb : Nat) : Prop where
  hm : ModAt w6 s mp n M
  ho : M % 2 = 1
  csp : s ≤ p
  csb : s ≤ b
  csh : s ≤ hi
  cpt : hi ≤ pt
  cppt : p ≠ pt
  cbpt : b ≠ pt
  cssp : sb ≠ p
  csspt : sb ≠ pt
  cwh : hi ≤ w6.heap.size
theorem ExSt.pu {w6 w0 wr : World} {p b n V pt hi sb : Nat} {PU QU : Nat → Prop} (h : ExSt w6 w0 p b n V pt hi sb PU wr) (hq : ∀ U, PU U → QU U) : ExSt w6 w0 p b n V pt hi sb QU wr := by
  obtain ⟨bo, co, bt, ct, U, h1, h2, h3, h4⟩ := h
  exact ⟨bo, co, bt, ct, U, h1, h2, hq U h3, h4⟩
theorem ExSt.drew {w6 w0 wr : World} {p b n V pt hi sb : Nat} {PU : Nat → Prop} (h : ExSt w6 w0 p b n V pt hi sb PU wr) : ExSt w6 w0 p b n V pt hi sb PU wr.drew := by
  obtain ⟨bo, co, bt, ct, U, h1, h2, h3, h4, h5, h6, h7, h8, h9, h10, h11, h12, h13⟩ := h
  exact ⟨bo, co, bt, ct, U, h1.drew, h2.drew, h3, h4, h5, h6, h7, h8, h9, h10, h11, h12, h13.drew⟩
theorem ExSt.outGrown {w6 w0 wr w' : World} {s mp p b n M V V' pt hi sb bo co bt ct U : Nat} {PU : Nat → Prop} (hc : ExC w6 s mp p b n M pt hi sb) (h2 : NatAt wr pt bt ct n U) (h3 : PU U) (h4 : bo = b ∨ hi ≤ bo) (h5 : hi ≤ bt) (h6 : bo ≠ pt) (h7 : bo ≠ bt) (h8 : p ≠ bt) (h9 : sb ≠ bo) (h10 : sb ≠ bt) (h11 : sb < wr.heap.size) (h12 : ∀ i v, w0.cell? ⟨sb, i, none⟩ = some v → wr.cell? ⟨sb, i, none⟩ = some v) (h13 : Upd (fun k => k = p ∨ k = b ∨ hi ≤ k) w6 wr) (_hx : NatAt wr p bo co n V)
    (hg : Grown wr p bo n V' w') : ExSt w6 w0 p b n V' pt hi sb PU w' := by
  obtain ⟨b', c', hN, hb, hu⟩ := hg
  replace hb : b' = bo ∨ wr.heap.size ≤ b' := hb
  have e1 := hc.cppt
  have e2 := hc.cssp
  have e3 := hc.cwh
  have z1 := h13.size
  have z2 := hu.size
  have l1 := h2.hp
  have l2 := h2.hb
  exact ⟨b', c', bt, ct, U, hN, h2.keep hu (by omega) (by omega), h3, by omega, h5, by omega, by omega, h8, by omega, h10, by omega, fun i v hv => hu.cell (p := ⟨sb, i, none⟩) (by show ¬ (sb = p ∨ sb = bo); omega) (h12 i v hv), h13.then hu (fun i hi h => by omega)⟩
/-- out squared. -/
theorem exSq {w6 w0 wr : World} {s mp p b n M X E pt hi sb : Nat} {PU : Nat → Prop} (hc : ExC w6 s mp p b n M pt hi sb) (h : ExSt w6 w0 p b n (X ^ E * W64 ^ n % M) pt hi sb PU wr) :
    Calls Try.prog 91 #[.pointer (some ⟨p, 0, none⟩), .pointer (some ⟨p, 0, none⟩), .pointer (some ⟨p, 0, none⟩), .pointer (some ⟨mp, 0, none⟩)] wr fun e w' => e = .returned (.pointer (some ⟨p, 0, none⟩)) ∧ ExSt w6 w0 p b n (X ^ (2 * E) * W64 ^ n % M) pt hi sb PU w' := by
  obtain ⟨bo, co, bt, ct, U, h1, h2, h3, h4, h5, h6, h7, h8, h9, h10, h11, h12, h13⟩ := h
  have q1 := hc.csp
  have q2 := hc.csb
  have q3 := hc.csh
  have hmr := hc.hm.keep h13 (fun k hk h => by omega)
  have key := montMM h1 h1 h1 hmr hc.ho hc.csp (by omega)
  rw [← Nat.pow_add, ← Nat.two_mul] at key
  exact key.mono fun e w' ⟨he, hg⟩ => ⟨he, ExSt.outGrown hc h2 h3 h4 h5 h6 h7 h8 h9 h10 h11 h12 h13 h1 hg⟩
/-- tmp = out * tmp. -/
theorem exMulT {w6 w0 wr : World} {s mp p b n M X E k pt hi sb : Nat} (hc : ExC w6 s mp p b n M pt hi sb) (h : ExSt w6 w0 p b n (X ^ E * W64 ^ n % M) pt hi sb (fun U => 1 ≤ k → U = X ^ k * W64 ^ n % M) wr) :
    Calls Try.prog 91 #[.pointer (some ⟨pt, 0, none⟩), .pointer (some ⟨p, 0, none⟩), .pointer (some ⟨pt, 0, none⟩), .pointer (some ⟨mp, 0, none⟩)] wr fun e w' => e = .returned (.pointer (some ⟨pt, 0, none⟩)) ∧ ExSt w6 w0 p b n (X ^ E * W64 ^ n % M) pt hi sb (fun U => 1 ≤ k → U = X ^ (E + k) * W64 ^ n % M) w' := by
  obtain ⟨bo, co, bt, ct, U, h1, h2, h3, h4, h5, h6, h7, h8, h9, h10, h11, h12, h13⟩ := h
  have q1 := hc.csp
  have q2 := hc.csb
  have q3 := hc.csh
  have q4 := hc.cpt
  have q5 := hc.hm.h1
  have hmr := hc.hm.keep h13 (fun k hk h => by omega)
  have key : Calls Try.prog 91 #[.pointer (some ⟨pt, 0, none⟩), .pointer (some ⟨p, 0, none⟩), .pointer (some ⟨pt, 0, none⟩), .pointer (some ⟨mp, 0, none⟩)] wr fun e w' => e = .returned (.pointer (some ⟨pt, 0, none⟩)) ∧ ∃ U', (1 ≤ k → U' = X ^ (E + k) * W64 ^ n % M) ∧ Grown wr pt bt n U' w' := by
    by_cases hk : 1 ≤ k
    · rw [h3 hk] at h2
      have key := montMM h2 h1 h2 hmr hc.ho (by omega) (by omega)
      rw [← Nat.pow_add] at key
      exact key.mono fun e w' ⟨he, hg⟩ => ⟨he, _, fun _ => rfl, hg⟩
    · exact (montAny h2 h1 (Nat.mod_lt _ (by omega)) h2 hmr hc.ho (by omega) (by omega)).mono fun e w' ⟨he, V, _, hg⟩ => ⟨he, V, fun h => absurd h hk, hg⟩
  refine key.mono fun e w' ⟨he, U', hU, b', c', hN, hb, hu⟩ => ⟨he, ?_⟩
  replace hb : b' = bt ∨ wr.heap.size ≤ b' := hb
  have e1 := hc.cppt
  have e2 := hc.csspt
  have e3 := hc.cwh
  have z1 := h13.size
  have z2 := hu.size
  have l1 := h1.hp
  have l2 := h1.hb
  have e4 := hc.cbpt
  exact ⟨bo, co, b', c', U', h1.keep hu (by omega) (by omega), hN, hU, h4, by omega, h6, by omega, by omega, h9, by omega, by omega, fun i v hv => hu.cell (p := ⟨sb, i, none⟩) (by show ¬ (sb = pt ∨ sb = bt); omega) (h12 i v hv), h13.then hu (fun i hi h => by omega)⟩
/-- tmp = table[i], where that is the power. -/
theorem exSel {w6 w0 wr : World} {s mp p b n M X V k i tb lo pt hi sb : Nat} {pf : Nat → Nat} (hc : ExC w6 s mp p b n M pt hi sb) (ht : TabR wr tb lo hi n X M pf) (hi15 : i < 15) (h : ExSt w6 w0 p b n V pt hi sb (fun U => 1 ≤ k → k ≤ i → U = X ^ k * W64 ^ n % M) wr) :
    Calls Try.prog 94 #[.pointer (some ⟨pt, 0, none⟩), .int .u64 (eqN k (i + 1) : Nat), .pointer (some ⟨pf i, 0, none⟩)] wr fun e w' => e = .returned (.pointer (some ⟨pt, 0, none⟩)) ∧ ExSt w6 w0 p b n V pt hi sb (fun U => 1 ≤ k → k ≤ i + 1 → U = X ^ k * W64 ^ n % M) w' := by
  obtain ⟨bo, co, bt, ct, U, h1, h2, h3, h4, h5, h6, h7, h8, h9, h10, h11, h12, h13⟩ := h
  obtain ⟨bq, cq, hq, hq1, hq2⟩ := ht.nat i hi15
  refine (assign_any pt bt ct n U (pf i) bq cq _ _ wr h2 hq (eqN_le _ _) (fun e => by omega)).mono fun e w' ⟨he, hN, hu⟩ => ⟨he, ?_⟩
  have z2 := hu.size
  have e1 := hc.cppt
  refine ⟨bo, co, bt, ct, _, h1.keep hu (by omega) (by omega), hN, fun hk1 hk2 => ?_, h4, h5, h6, h7, h8, h9, h10, by omega, fun j v hv => hu.cell (p := ⟨sb, j, none⟩) h10 (h12 j v hv), h13.then hu (fun i hi h => by omega)⟩
  unfold eqN selN
  by_cases e : k = i + 1
  · rw [if_pos e, if_pos rfl, e]
  · rw [if_neg e, if_neg (by omega)]; exact h3 hk1 (by omega)
/-- out = tmp, where the digit is not 0. -/
theorem exFin {w6 w0 wr : World} {s mp p b n M X E k pt hi sb : Nat} (hc : ExC w6 s mp p b n M pt hi sb) (h : ExSt w6 w0 p b n (X ^ E * W64 ^ n % M) pt hi sb (fun U => 1 ≤ k → U = X ^ (E + k) * W64 ^ n % M) wr) :
    Calls Try.prog 94 #[.pointer (some ⟨p, 0, none⟩), .int .u64 (1 - eqN k 0 : Nat), .pointer (some ⟨pt, 0, none⟩)] wr fun e w' => e = .returned (.pointer (some ⟨p, 0, none⟩)) ∧ ExSt w6 w0 p b n (X ^ (E + k) * W64 ^ n % M) pt hi sb (fun _ => True) w' := by
  obtain ⟨bo, co, bt, ct, U, h1, h2, h3, h4, h5, h6, h7, h8, h9, h10, h11, h12, h13⟩ := h
  have hle := eqN_le k 0
  have hV : selN (1 - eqN k 0) (X ^ E * W64 ^ n % M) U = X ^ (E + k) * W64 ^ n % M := by
    unfold eqN selN
    by_cases e : k = 0
    · rw [if_pos e, if_neg (by omega), e, Nat.add_zero]
    · rw [if_neg e, if_pos (by omega), h3 (by omega)]
  have key := assign_any p bo co n _ pt bt ct U _ wr h1 h2 (show 1 - eqN k 0 ≤ 1 by omega) (fun e => absurd e.symm h7)
  rw [hV] at key
  refine key.mono fun e w' ⟨he, hN, hu⟩ => ⟨he, ExSt.outGrown hc h2 trivial h4 h5 h6 h7 h8 h9 h10 h11 h12 h13 h1 ⟨bo, co, hN, .inl rfl, hu.mono (fun _ _ h => .inr h)⟩⟩
/-- The exponent behind t half bytes of d. -/
def exh (E d t : Nat) : Nat := E * 16 ^ t + d / 16 ^ (2 - t)
theorem exh_zero {E d : Nat} (hd : d < 256) : exh E d 0 = E := by
  unfold exh; rw [Nat.pow_zero, Nat.mul_one, Nat.div_eq_of_lt (by exact hd), Nat.add_zero]
theorem exh_one (E d : Nat) : exh E d 1 = 2 * (2 * (2 * (2 * E))) + d / 16 := by unfold exh; simp only [Nat.pow_one]; omega
theorem exh_two (E d : Nat) : exh E d 2 = 2 * (2 * (2 * (2 * exh E d 1))) + d % 16 := by unfold exh; simp; omega
theorem exh_end (E d : Nat) : exh E d 2 = E * 256 + d := by unfold exh; simp
/-- The first k new numbers of the table. -/
structure NewK (v0 w : World) (ba : Nat) (pf bf : Nat → Nat) (k : Nat) : Prop where
  nat : ∀ i, i < k → NatAt w (pf i) (bf i) 32 0 0
  upd : Upd0 v0 w
  sz : w.heap.size = ba + 2 * k
theorem newK_step {v0 w : World} {ba : Nat} {pf bf : Nat → Nat} (k : Nat) (h : NewK v0 w ba pf bf k) (hpf : Hid (∀ i, pf i = ba + 2 * i + 1)) (hbf : Hid (∀ i, bf i = ba + 2 * i)) :
    Calls Try.prog 59 #[] w fun e w' => e = .returned (.pointer (some ⟨pf k, 0, none⟩)) ∧ NewK v0 w' ba pf bf (k + 1) := by
  have hs := h.sz
  refine (newNat_at w (pf k) (bf k) (by rw [hpf.out]; omega) (by rw [hbf.out]; omega)).mono fun e w' ⟨he, hN, hu, hz⟩ => ⟨he, fun i hi => ?_, h.upd.trans hu, by rw [hz.out]; omega⟩
  by_cases e : i = k
  · subst e; exact hN
  · exact (h.nat i (by omega)).keep0 hu
theorem tab_start {v0 v : World} {ba : Nat} {pf bf : Nat → Nat} (hk : NewK v0 v ba pf bf 15) (t : Nat) :
    (∀ i, i < 15 → (v.alloc (.cells #[.pointer (some ⟨pf 0, 0, none⟩), .pointer (some ⟨pf 1, 0, none⟩), .pointer (some ⟨pf 2, 0, none⟩), .pointer (some ⟨pf 3, 0, none⟩), .pointer (some ⟨pf 4, 0, none⟩), .pointer (some ⟨pf 5, 0, none⟩), .pointer (some ⟨pf 6, 0, none⟩), .pointer (some ⟨pf 7, 0, none⟩), .pointer (some ⟨pf 8, 0, none⟩), .pointer (some ⟨pf 9, 0, none⟩), .pointer (some ⟨pf 10, 0, none⟩), .pointer (some ⟨pf 11, 0, none⟩), .pointer (some ⟨pf 12, 0, none⟩), .pointer (some ⟨pf 13, 0, none⟩), .pointer (some ⟨pf 14, 0, none⟩)] t)).cell? ⟨v.heap.size, i, none⟩ = some (.pointer (some ⟨pf i, 0, none⟩))) ∧ (∀ i, i < 15 → NatAt (v.alloc (.cells #[.pointer (some ⟨pf 0, 0, none⟩), .pointer (some ⟨pf 1, 0, none⟩), .pointer (some ⟨pf 2, 0, none⟩), .pointer (some ⟨pf 3, 0, none⟩), .pointer (some ⟨pf 4, 0, none⟩), .pointer (some ⟨pf 5, 0, none⟩), .pointer (some ⟨pf 6, 0, none⟩), .pointer (some ⟨pf 7, 0, none⟩), .pointer (some ⟨pf 8, 0, none⟩), .pointer (some ⟨pf 9, 0, none⟩), .pointer (some ⟨pf 10, 0, none⟩), .pointer (some ⟨pf 11, 0, none⟩), .pointer (some ⟨pf 12, 0, none⟩), .pointer (some ⟨pf 13, 0, none⟩), .pointer (some ⟨pf 14, 0, none⟩)] t)) (pf i) (bf i) 32 0 0) ∧
    Upd0 v0 (v.alloc (.cells #[.pointer (some ⟨pf 0, 0, none⟩), .pointer (some ⟨pf 1, 0, none⟩), .pointer (some ⟨pf 2, 0, none⟩), .pointer (some ⟨pf 3, 0, none⟩), .pointer (some ⟨pf 4, 0, none⟩), .pointer (some ⟨pf 5, 0, none⟩), .pointer (some ⟨pf 6, 0, none⟩), .pointer (some ⟨pf 7, 0, none⟩), .pointer (some ⟨pf 8, 0, none⟩), .pointer (some ⟨pf 9, 0, none⟩), .pointer (some ⟨pf 10, 0, none⟩), .pointer (some ⟨pf 11, 0, none⟩), .pointer (some ⟨pf 12, 0, none⟩), .pointer (some ⟨pf 13, 0, none⟩), .pointer (some ⟨pf 14, 0, none⟩)] t)) ∧ (v.alloc (.cells #[.pointer (some ⟨pf 0, 0, none⟩), .pointer (some ⟨pf 1, 0, none⟩), .pointer (some ⟨pf 2, 0, none⟩), .pointer (some ⟨pf 3, 0, none⟩), .pointer (some ⟨pf 4, 0, none⟩), .pointer (some ⟨pf 5, 0, none⟩), .pointer (some ⟨pf 6, 0, none⟩), .pointer (some ⟨pf 7, 0, none⟩), .pointer (some ⟨pf 8, 0, none⟩), .pointer (some ⟨pf 9, 0, none⟩), .pointer (some ⟨pf 10, 0, none⟩), .pointer (some ⟨pf 11, 0, none⟩), .pointer (some ⟨pf 12, 0, none⟩), .pointer (some ⟨pf 13, 0, none⟩), .pointer (some ⟨pf 14, 0, none⟩)] t)).heap.size = ba + 31 := by
  have hu : Upd0 v (v.alloc (.cells #[.pointer (some ⟨pf 0, 0, none⟩), .pointer (some ⟨pf 1, 0, none⟩), .pointer (some ⟨pf 2, 0, none⟩), .pointer (some ⟨pf 3, 0, none⟩), .pointer (some ⟨pf 4, 0, none⟩), .pointer (some ⟨pf 5, 0, none⟩), .pointer (some ⟨pf 6, 0, none⟩), .pointer (some ⟨pf 7, 0, none⟩), .pointer (some ⟨pf 8, 0, none⟩), .pointer (some ⟨pf 9, 0, none⟩), .pointer (some ⟨pf 10, 0, none⟩), .pointer (some ⟨pf 11, 0, none⟩), .pointer (some ⟨pf 12, 0, none⟩), .pointer (some ⟨pf 13, 0, none⟩), .pointer (some ⟨pf 14, 0, none⟩)] t)) := (Upd.refl _ _).alloc _
  refine ⟨fun i hi => ?_, fun i hi => (hk.nat i hi).keep0 hu, hk.upd.trans hu, by have := hk.sz; simp; omega⟩
  rw [World.cell?_alloc_new]
  rcases (show i = 0 ∨ i = 1 ∨ i = 2 ∨ i = 3 ∨ i = 4 ∨ i = 5 ∨ i = 6 ∨ i = 7 ∨ i = 8 ∨ i = 9 ∨ i = 10 ∨ i = 11 ∨ i = 12 ∨ i = 13 ∨ i = 14 by omega) with h | h | h | h | h | h | h | h | h | h | h | h | h | h | h <;> subst h <;> rfl
theorem TabI.start {w : World} {tb n X M : Nat} {pf bf : Nat → Nat} {b c : Nat} (h1 : ∀ i, i < 15 → w.cell? ⟨tb, i, none⟩ = some (.pointer (some ⟨pf i, 0, none⟩))) (h2 : ∀ i, 0 < i → i < 15 → NatAt w (pf i) (bf i) 32 0 0) (h3 : NatAt w (pf 0) b c n (X * W64 ^ n % M)) (h4 : b = bf 0 ∨ tb < b) (h5 : tb < w.heap.size) : TabI w tb n 0 X M pf bf where
  cell := h1
  old := h2
  done := fun i hi _ => by
    obtain rfl : i = 0 := by omega
    exact ⟨b, c, by rw [Nat.zero_add, Nat.pow_one]; exact h3, h4⟩
  lt := h5
theorem ExSt.inner {w6 w0 wr W : World} {p b n V pt hi sb : Nat} {PU : Nat → Prop} (h : ExSt w6 w0 p b n V pt hi sb PU wr) (hu : Upd0 wr W) (hW : wr.heap.size < W.heap.size) : ExSt w6 W p b n V pt hi wr.heap.size PU W := by
  obtain ⟨bo, co, bt, ct, U, h1, h2, h3, h4, h5, h6, h7, h8, h9, h10, h11, h12, h13⟩ := h
  have l1 := h1.hb
  have l2 := h2.hb
  exact ⟨bo, co, bt, ct, U, h1.keep0 hu, h2.keep0 hu, h3, h4, h5, h6, h7, h8, by omega, by omega, hW, fun _ _ hv => hv, h13.trans (hu.mono (fun _ _ h => h.elim))⟩
theorem ExSt.outer {w6 w0 wr : World} {p b n V pt hi sb tb : Nat} {PU : Nat → Prop} (h : ExSt w6 w0 p b n V pt hi sb PU wr) (ht : tb < hi) (h1 : tb ≠ p) (h2 : tb ≠ b) (h3 : hi ≤ w6.heap.size) : ExSt w6 w6 p b n V pt hi tb PU wr := by
  obtain ⟨bo, co, bt, ct, U, g1, g2, g3, g4, g5, g6, g7, g8, g9, g10, g11, g12, g13⟩ := h
  have z := g13.size
  exact ⟨bo, co, bt, ct, U, g1, g2, g3, g4, g5, g6, g7, g8, by omega, by omega, by omega, fun i v hv => g13.cell (p := ⟨tb, i, none⟩) (by show ¬ (tb = p ∨ tb = b ∨ hi ≤ tb); omega) hv, g13⟩
theorem ExC.inner {w6 : World} {s mp p b n M pt hi sb sb' : Nat} (h : ExC w6 s mp p b n M pt hi sb) (h1 : sb' ≠ p) (h2 : sb' ≠ pt) : ExC w6 s mp p b n M pt hi sb' := ⟨h.hm, h.ho, h.csp, h.csb, h.csh, h.cpt, h.cppt, h.cbpt, h1, h2, h.cwh⟩
theorem ExSt.lts {w6 w0 wr : World} {p b n V pt hi sb : Nat} {PU : Nat → Prop} (h : ExSt w6 w0 p b n V pt hi sb PU wr) : p < wr.heap.size ∧ pt < wr.heap.size ∧ Upd (fun k => k = p ∨ k = b ∨ hi ≤ k) w6 wr ∧ (∀ i v, w0.cell? ⟨sb, i, none⟩ = some v → wr.cell? ⟨sb, i, none⟩ = some v) := by
  obtain ⟨bo, co, bt, ct, U, h1, h2, h3, h4, h5, h6, h7, h8, h9, h10, h11, h12, h13⟩ := h
  exact ⟨h1.hp, h2.hp, h13, h12⟩
theorem exh_step {E d t : Nat} (hd : d < 256) (ht : t < 2) : exh E d (t + 1) = 2 * (2 * (2 * (2 * exh E d t))) + d / 2 ^ (4 - 4 * t) % 16 := by
  rcases (show t = 0 ∨ t = 1 by omega) with h | h <;> subst h
  · rw [exh_zero hd, exh_one]; simp; omega
  · rw [exh_two]; simp
set_option maxRecDepth 100000 in
set_option maxHeartbeats 8000000 in
theorem exp_any {p b c m Z px bx cx n X s mp M ne ce : Nat} {ae : Option Addr} {f : Nat → Nat} {v0 : World} (hx0 : NatAt v0 p b c m Z) (hx : NatAt v0 px bx cx n X) (hm : ModAt v0 s mp n M) (ho : M % 2 = 1) (hX : X < M) (hp : s ≤ p) (hb : s ≤ b) (hne : ne ≤ 100000) (hf : ∀ i, i < ne → f i < 256) (he : Sl .u8 v0 ae ne ce f) (hea : ∀ x off, ae = some ⟨x, off, none⟩ → x ≠ p ∧ x ≠ b ∧ x < v0.heap.size) :
    Calls Try.prog 56 #[.pointer (some ⟨p, 0, none⟩), .pointer (some ⟨px, 0, none⟩), .slice ae ne ce, .pointer (some ⟨mp, 0, none⟩)] v0 fun e w' => e = .returned (.pointer (some ⟨p, 0, none⟩)) ∧ Grown v0 p b n (X ^ be f ne % M) w' := by
  have hodd := hm.odd
  rw [show decide (M % 2 = 1) = true from decide_eq_true ho] at hodd
  have HO := Lib.hid ho
  have hms := hm.hs
  have hmp := hm.hp
  have hlp := hx0.hp
  have hlb := hx0.hb
  have hlx := hx.hp
  have hlbx := hx.hb
  obtain ⟨ba, Hba⟩ : ∃ ba, Hid (ba = v0.heap.size) := ⟨_, rfl⟩
  have hba1 := Nat.le_of_eq Hba.out
  have hba2 := Nat.le_of_eq Hba.out.symm
  obtain ⟨pf, hpf⟩ : ∃ pf : Nat → Nat, Hid (∀ i, pf i = ba + 2 * i + 1) := ⟨_, fun _ => rfl⟩
  obtain ⟨bf, hbf⟩ : ∃ bf : Nat → Nat, Hid (∀ i, bf i = ba + 2 * i) := ⟨_, fun _ => rfl⟩
  have hk : NewK v0 v0 ba pf bf 0 := ⟨fun i hi => absurd hi (Nat.not_lt_zero i), .refl _ _, by rw [Hba.out]; rfl⟩
  have HF := Lib.hid hf
  clear ho hf
  go_enter Try.func56, Try.ntmps56
  go_wp2_with fail
  with_reducible refine (newK_step 0 hk hpf hbf).mono ?_
  rintro e v1 ⟨rfl, hk'⟩
  replace hk : NewK v0 v1 ba pf bf (0 + 1) := hk'
  clear hk'
  go_wp2_with fail
  with_reducible refine (newK_step 1 hk hpf hbf).mono ?_
  rintro e v2 ⟨rfl, hk'⟩
  replace hk : NewK v0 v2 ba pf bf (1 + 1) := hk'
  clear hk'
  go_wp2_with fail
  with_reducible refine (newK_step 2 hk hpf hbf).mono ?_
  rintro e v3 ⟨rfl, hk'⟩
  replace hk : NewK v0 v3 ba pf bf (2 + 1) := hk'
  clear hk'
  go_wp2_with fail
  with_reducible refine (newK_step 3 hk hpf hbf).mono ?_
  rintro e v4 ⟨rfl, hk'⟩
  replace hk : NewK v0 v4 ba pf bf (3 + 1) := hk'
  clear hk'
  go_wp2_with fail
  with_reducible refine (newK_step 4 hk hpf hbf).mono ?_
  rintro e v5 ⟨rfl, hk'⟩
  replace hk : NewK v0 v5 ba pf bf (4 + 1) := hk'
  clear hk'
  go_wp2_with fail
  with_reducible refine (newK_step 5 hk hpf hbf).mono ?_
  rintro e v6 ⟨rfl, hk'⟩
  replace hk : NewK v0 v6 ba pf bf (5 + 1) := hk'
  clear hk'
  go_wp2_with fail
  with_reducible refine (newK_step 6 hk hpf hbf).mono ?_
  rintro e v7 ⟨rfl, hk'⟩
  replace hk : NewK v0 v7 ba pf bf (6 + 1) := hk'
  clear hk'
  go_wp2_with fail
  with_reducible refine (newK_step 7 hk hpf hbf).mono ?_
  rintro e v8 ⟨rfl, hk'⟩
  replace hk : NewK v0 v8 ba pf bf (7 + 1) := hk'
  clear hk'
  go_wp2_with fail
  with_reducible refine (newK_step 8 hk hpf hbf).mono ?_
  rintro e v9 ⟨rfl, hk'⟩
  replace hk : NewK v0 v9 ba pf bf (8 + 1) := hk'
  clear hk'
  go_wp2_with fail
  with_reducible refine (newK_step 9 hk hpf hbf).mono ?_
  rintro e v10 ⟨rfl, hk'⟩
  replace hk : NewK v0 v10 ba pf bf (9 + 1) := hk'
  clear hk'
  go_wp2_with fail
  with_reducible refine (newK_step 10 hk hpf hbf).mono ?_
  rintro e v11 ⟨rfl, hk'⟩
  replace hk : NewK v0 v11 ba pf bf (10 + 1) := hk'
  clear hk'
  go_wp2_with fail
  with_reducible refine (newK_step 11 hk hpf hbf).mono ?_
  rintro e v12 ⟨rfl, hk'⟩
  replace hk : NewK v0 v12 ba pf bf (11 + 1) := hk'
  clear hk'
  go_wp2_with fail
  with_reducible refine (newK_step 12 hk hpf hbf).mono ?_
  rintro e v13 ⟨rfl, hk'⟩
  replace hk : NewK v0 v13 ba pf bf (12 + 1) := hk'
  clear hk'
  go_wp2_with fail
  with_reducible refine (newK_step 13 hk hpf hbf).mono ?_
  rintro e v14 ⟨rfl, hk'⟩
  replace hk : NewK v0 v14 ba pf bf (13 + 1) := hk'
  clear hk'
  go_wp2_with fail
  with_reducible refine (newK_step 14 hk hpf hbf).mono ?_
  rintro e v15 ⟨rfl, hk'⟩
  replace hk : NewK v0 v15 ba pf bf (14 + 1) := hk'
  clear hk'
  go_wp2_with fail
  obtain ⟨T1, T2, T3, T4⟩ := tab_start hk 96
  have hsz15 := hk.sz
  obtain ⟨tb, Htb⟩ : ∃ tb, Hid (tb = v15.heap.size) := ⟨_, rfl⟩
  have htb1 := Nat.le_of_eq (Htb.out.trans hsz15)
  have htb2 := Nat.le_of_eq (Htb.out.trans hsz15).symm
  rw [← Htb.out] at T1 ⊢
  replace T4 := Lib.hid T4
  clear hsz15 hk
  generalize v15.alloc _ = v16 at *
  have hpf0a := Nat.le_of_eq (hpf.out 0)
  have hpf0b := Nat.le_of_eq (hpf.out 0).symm
  have hbf0a := Nat.le_of_eq (hbf.out 0)
  have hbf0b := Nat.le_of_eq (hbf.out 0).symm
  have k1 := Lib.hid (set_any (pf 0) (bf 0) 32 0 0 px bx cx n X v16 (T2 0 (by omega)) (hx.keep0 T3) (by omega) (by omega) (by omega) (by omega))
  have hcell0 := T1 0 (by omega)
  with_reducible refine k1.out.mono ?_
  rintro e w17 ⟨rfl, b17, c17, hx17, hb17, hu17⟩
  replace hb17 : b17 = bf 0 ∨ v16.heap.size ≤ b17 := hb17
  have z16 := T3.size
  have hT4 := T4.out
  have hu017 : Upd0 v0 w17 := T3.then hu17 (fun i hi h => by omega)
  have z17 := hu17.size
  have k2 := Lib.hid (montRep_any hx17 (hm.keep0 hu017) HO.out hX (by omega) (by omega))
  clear hT4
  go_wp2_with fail
  with_reducible refine k2.out.mono ?_
  rintro e w18 ⟨rfl, b18, c18, hx18, hb18, hu18⟩
  replace hb18 : b18 = b17 ∨ w17.heap.size ≤ b18 := hb18
  have hT4 := T4.out
  have hu018 : Upd0 v0 w18 := hu017.then hu18 (fun i hi h => by omega)
  have z18 := hu18.size
  have hI0 : TabI w18 tb n 0 X M pf bf := .start (fun i hi => hu18.cell (p := ⟨tb, i, none⟩) (by show ¬ (tb = _ ∨ tb = _); omega) (hu17.cell (p := ⟨tb, i, none⟩) (by show ¬ (tb = _ ∨ tb = _); omega) (T1 i hi)))
    (fun i hi hi2 => by
      have h3 := hpf.out i
      have h4 := hbf.out i
      exact ((T2 i hi2).keep hu17 (by omega) (by omega)).keep hu18 (by omega) (by omega)) hx18 (by omega) (by omega)
  have htbx : tb = ba + 30 := by omega
  replace htbx := Lib.hid htbx
  clear hT4 T1 T2 T3 T4 hx17 hx18 hb17 hb18 hu17 hu18 hu017 k1 k2 hcell0 z16 z17 z18
  go_wp2_with fail
  go_loopw [10] (fun i wr => ∃ j q : Nat, j ≤ 14 ∧ q ≤ j + 1 ∧ j + 1 ≤ q ∧ i = .int .i64 (q : Nat) ∧ TabI wr tb n j X M pf bf ∧ Upd0 v0 wr) (fun i _ => 15 - (intOf i).toNat)
  case atStart => exact ⟨0, 1, by omega, by omega, by omega, rfl, hI0, hu018⟩
  case round =>
    clear hI0 hu018
    obtain ⟨j, q, hj, hq1, hq2, rfl, hI, hu⟩ := hrel
    by_cases hlt : j < 14
    · have c1 := hI.cell q (by omega)
      have c2 := hI.cell j (by omega)
      have c3 := hI.cell 0 (by omega)
      have i1 : (q : Int) < 15 := by omega
      have i2 : (0 : Int) ≤ (q : Int) := by omega
      have i3 : ((q : Int)).toNat = q := by omega
      have i4 : (j : Int) < 15 := by omega
      have i5 : (0 : Int) ≤ (j : Int) := by omega
      have i6 : ((j : Int)).toNat = j := by omega
      have e1 : IntKind.i64.wrap ((q : Int) - 1) = (j : Int) := by rw [w64 _ (by omega) (by omega)]; omega
      obtain ⟨ba1, ca1, ha1, hb1⟩ := hI.done j (Nat.le_refl _) (by omega)
      obtain ⟨ba2, ca2, ha2, hb2⟩ := hI.done 0 (Nat.zero_le _) (by omega)
      have hpqa := Nat.le_of_eq (hpf.out q)
      have hpqb := Nat.le_of_eq (hpf.out q).symm
      have hbqa := Nat.le_of_eq (hbf.out q)
      have hbqb := Nat.le_of_eq (hbf.out q).symm
      have key := montMM (hI.old q (by omega) (by omega)).drew ha1.drew ha2.drew ((hm.keep0 hu).drew) HO.out (by omega) (by omega)
      rw [← Nat.pow_add] at key
      replace key := Lib.hid key
      clear ha1 ha2 hb1 hb2
      go_wp2_with fail
      go_still_tail 10, (by kernel_rfl)
      change wpList _ _ _ _ _ wr.drew
      go_wp2_with fail
      with_reducible refine key.out.mono ?_
      rintro e w3 ⟨rfl, hg⟩
      clear e1 c1 c2 c3
      have hjq : q = j + 1 := by omega
      have hI2 : TabI w3 tb n (j + 1) X M pf bf := by
        subst hjq
        exact hI.drew.next hpf.out hbf.out htbx.out (by omega) hg
      have hu3 : Upd0 v0 w3 := by
        obtain ⟨b', c', _, _, hu4⟩ := hg
        exact hu.drew.then hu4 (fun i hi h => by omega)
      clear hg hI hjq
      go_wp2_with fail
      go_roundw
      case rel => exact ⟨j + 1, q + 1, by omega, by omega, by omega, by go_num, hI2, hu3⟩
      case measure => simp [intOf]; omega
    · obtain rfl : j = 14 := by omega
      obtain rfl : q = 15 := by omega
      have hR := hI.all hpf.out hbf.out htbx.out
      clear hI
      obtain ⟨hi, Hhi⟩ : ∃ hi, Hid (hi = wr.heap.size) := ⟨_, rfl⟩
      have hhi1 := Nat.le_of_eq Hhi.out
      have hhi2 := Nat.le_of_eq Hhi.out.symm
      rw [← Hhi.out] at hR
      have zr := hu.size
      obtain ⟨qm, bm, cm, hmn, hqs, hbs⟩ := hm.ex
      have hnp := hm.npos
      have hnp' : (0 : Int) < (n : Int) := by omega
      have hm1 := hm.h1
      have k1 := Lib.hid (resetFor_any p b c m Z mp qm bm cm n M wr (hx0.keep0 hu) (hmn.keep0 hu))
      go_wp2_with fail
      with_reducible refine k1.out.mono ?_
      rintro e w20 ⟨rfl, b20, c20, hx20, hb20, hu20⟩
      replace hb20 : b20 = b ∨ wr.heap.size ≤ b20 := hb20
      have hu020 : Upd (fun k => k = p ∨ k = b) v0 w20 := (Upd.mono (T := fun k => k = p ∨ k = b) hu (fun _ _ h => h.elim)).trans hu20
      have z20 := hu20.size
      have cD0 := hx20.hd
      have cD1 := hx20.own.cell 0 hnp
      have cD2 := hx20.own.free 0 hnp
      have hone := hx20.setLow hnp 1 (by omega)
      have hu21 : Upd (fun k => k = b20) w20 (w20.setCell ⟨b20, 0, none⟩ (.int .u64 ((1 : Nat) : Int))) := (Upd.refl _ _).setCell _ _ (fun _ => rfl)
      go_wp2_with fail
      generalize w20.setCell ⟨b20, 0, none⟩ (.int .u64 1) = w21 at *
      clear cD0 cD1 cD2 hx20 k1
      have hu021 : Upd (fun k => k = p ∨ k = b) v0 w21 := hu020.then hu21 (fun i hi h => by omega)
      have z21 := hu21.size
      have k2 := Lib.hid (montRep_any hone (hm.keep hu021 (fun k hk h => by omega)) HO.out hm1 hp (by omega))
      with_reducible refine k2.out.mono ?_
      rintro e w22 ⟨rfl, b22, c22, hx22, hb22, hu22⟩
      replace hb22 : b22 = b20 ∨ w21.heap.size ≤ b22 := hb22
      have hu022 : Upd (fun k => k = p ∨ k = b) v0 w22 := hu021.then hu22 (fun i hi h => by omega)
      have z22 := hu22.size
      obtain ⟨pt, Hpt⟩ : ∃ q, Hid (q = w22.heap.size + 1) := ⟨_, rfl⟩
      obtain ⟨bt0, Hbt⟩ : ∃ q, Hid (q = w22.heap.size) := ⟨_, rfl⟩
      have hpt1 := Nat.le_of_eq Hpt.out
      have hpt2 := Nat.le_of_eq Hpt.out.symm
      have hbt1 := Nat.le_of_eq Hbt.out
      have hbt2 := Nat.le_of_eq Hbt.out.symm
      go_wp2_with fail
      with_reducible refine (newNat_at w22 pt bt0 Hpt.out Hbt.out).mono ?_
      rintro e w23 ⟨rfl, hx23, hu23, hz23⟩
      have z23 := hu23.size
      have hu023 := hu022.then hu23 (fun _ _ h => h.elim)
      have k3 := Lib.hid (expandFor_any pt bt0 32 0 0 mp qm bm cm n M w23 hx23 (hmn.keep hu023 (by omega) (by omega) (by omega)) (Nat.zero_le _))
      go_wp2_with fail
      with_reducible refine k3.out.mono ?_
      rintro e w24 ⟨rfl, bt, ct, hx24, hb24, hu24⟩
      replace hb24 : bt = bt0 ∨ w23.heap.size ≤ bt := hb24
      have z24 := hu24.size
      have lo22 := hx22.hb
      have hu024 : Upd (fun k => k = p ∨ k = b) v0 w24 := hu023.then hu24 (fun i hi h => by omega)
      have hr24 : Upd (fun k => k = p ∨ k = b ∨ hi ≤ k) wr w24 := ((((hu20.mono (fun k _ h => by rcases h with h | h; exact .inl h; exact .inr (.inl h))).then hu21 (fun i hi h => by omega)).then hu22 (fun i hi h => by omega)).then hu23 (fun _ _ h => h.elim)).then hu24 (fun i hi h => by omega)
      have hR24 : TabR w24 tb ba hi n X M pf := hR.keep hr24 (fun k h1 h2 h => by omega)
      have htbhi := hR24.tt
      have htbh1 := htbhi.1
      have htbh2 := htbhi.2
      have hC : ExC w24 s mp p b n M pt hi tb := ⟨hm.keep hu024 (fun k hk h => by omega), HO.out, hp, hb, by omega, by omega, by omega, by omega, by omega, by omega, by omega⟩
      have hS0 : ExSt w24 w24 p b n (X ^ be f 0 * W64 ^ n % M) pt hi tb (fun _ => True) w24 := ⟨b22, c22, bt, ct, 0, by
          have h := (hx22.keep0 hu23).keep hu24 (by omega) (by omega)
          show NatAt _ _ _ _ _ (X ^ 0 * W64 ^ n % M)
          rw [Nat.pow_zero]; exact h, hx24, trivial, by omega, by omega, by omega, by omega, by omega, by omega, by omega, by omega, fun _ _ h => h, .refl _ _⟩
      have heR : Rd .u8 w24 ae ne f := by
        rcases Nat.eq_zero_or_pos ne with h0 | h0
        · subst h0; exact .nil _ _ _
        · obtain ⟨x, off, rfl, _⟩ := he.rd.open h0
          have := hea x off rfl
          exact he.rd.keepS hu024 (by omega)
      clear hx0 hx hx22 hx23 hx24 hu20 hu21 hu22 hu23 hu24 hr24 hR hone hu020 hu021 hu022 hu023 k2 k3 hu
      go_wp2_with fail
      go_loopw [77] (fun i wq => ∃ j : Nat, j ≤ ne ∧ i = .int .i64 (j : Nat) ∧ ExSt w24 w24 p b n (X ^ be f j * W64 ^ n % M) pt hi tb (fun _ => True) wq) (fun i _ => ne - (intOf i).toNat)
      case atStart => exact ⟨0, Nat.zero_le _, rfl, hS0⟩
      case round =>
        clear hS0
        obtain ⟨j, hj, rfl, hS⟩ := hrel
        obtain ⟨lp1, lp2, hu6, _⟩ := hS.lts
        by_cases hlt : j < ne
        · have heR2 : Rd .u8 wr ae ne f := by
            obtain ⟨x, off, rfl, hcx⟩ := heR.open (by omega)
            have := hea x off rfl
            exact heR.keepS hu6 (by omega)
          obtain ⟨xb, off, d, rfl, hcell, hd, HD⟩ := byte_cell heR2 HF.out hlt
          have i1 : (j : Int) < (ne : Int) := by omega
          go_wp2_with fail
          have hW0 : Upd0 wr (wr.alloc (.cells #[.int .i64 4, .int .i64 0] 3)) := (Upd.refl _ _).alloc _
          have hWz : wr.heap.size < (wr.alloc (.cells #[.int .i64 4, .int .i64 0] 3)).heap.size := by simp
          have hWc : Hid (∀ t, t < 2 → (wr.alloc (.cells #[.int .i64 4, .int .i64 0] 3)).cell? ⟨wr.heap.size, t, none⟩ = some (.int .i64 ((4 - 4 * t : Nat) : Int))) := fun t ht => by
            rw [World.cell?_alloc_new]
            rcases (show t = 0 ∨ t = 1 by omega) with h | h <;> subst h <;> rfl
          have hS1 := hS.inner hW0 hWz
          have hC1 := hC.inner (sb' := wr.heap.size) (by omega) (by omega)
          obtain ⟨sb, Hsb⟩ : ∃ sb, Hid (sb = wr.heap.size) := ⟨_, rfl⟩
          rw [← Hsb.out] at hS1 hC1 hWc ⊢
          obtain ⟨E, HE⟩ : ∃ E, Hid (E = be f j) := ⟨_, rfl⟩
          have HE0 : Hid (E = exh E d 0) := (exh_zero hd).symm
          rw [← HE.out, HE0.out] at hS1
          clear hW0 hWz hcell heR2
          generalize wr.alloc _ = W at *
          go_loopw [83] (fun i wq => ∃ t : Nat, t ≤ 2 ∧ i = .int .i64 (t : Nat) ∧ ExSt w24 W p b n (X ^ exh E d t * W64 ^ n % M) pt hi sb (fun _ => True) wq) (fun i _ => 2 - (intOf i).toNat)
          case atStart => exact ⟨0, by omega, rfl, hS1⟩
          case round =>
            clear hS1
            obtain ⟨t, ht, rfl, hT⟩ := hrel
            by_cases ht2 : t < 2
            · obtain ⟨_, _, hu7, hkeep⟩ := hT.lts
              have hcj := hkeep t _ (hWc.out t ht2)
              obtain ⟨jv, Hjv⟩ : ∃ jv, Hid (jv = 4 - 4 * t) := ⟨_, rfl⟩
              rw [← Hjv.out] at hcj
              obtain ⟨D1, HD1⟩ : ∃ D1, Hid (D1 = d / 2 ^ jv) := ⟨_, rfl⟩
              have hD1 : D1 < 256 := by rw [HD1.out]; exact Nat.lt_of_le_of_lt (Nat.div_le_self _ _) hd
              obtain ⟨kk, Hkk⟩ : ∃ kk, Hid (kk = D1 % 16) := ⟨_, rfl⟩
              have hkk : kk < 16 := by rw [Hkk.out]; omega
              have HX : Hid (exh E d (t + 1) = 2 * (2 * (2 * (2 * exh E d t))) + kk) := by show _ = _; rw [exh_step hd ht2, Hkk.out, HD1.out, Hjv.out]
              have e1 : (d : Int) / 2 ^ min jv 8 = (D1 : Int) := by rw [Nat.min_eq_left (by rw [Hjv.out]; omega), HD1.out]; simp
              have e3 : IntKind.u64.wrap (kk : Int) = (kk : Int) := IntWalk.u64_in _ (by omega)
              have e2 : bits .and .u8 (D1 : Int) 15 = (kk : Int) := by rw [and15 hD1, Hkk.out]
              have i1 : (t : Int) < 2 := by omega
              go_wp2_with fail
              with_reducible refine (exSq hC1 hT).mono ?_
              rintro e w31 ⟨rfl, hT1⟩
              clear hcj hT
              go_wp2_with fail
              with_reducible refine (exSq hC1 hT1).mono ?_
              rintro e w32 ⟨rfl, hT2⟩
              clear hT1
              go_wp2_with fail
              with_reducible refine (exSq hC1 hT2).mono ?_
              rintro e w33 ⟨rfl, hT3⟩
              clear hT2
              go_wp2_with fail
              with_reducible refine (exSq hC1 hT3).mono ?_
              rintro e w34 ⟨rfl, hT4⟩
              clear hT3
              go_wp2_with fail
              clear e1 e2 e3
              go_loopw [112] (fun i wq => ∃ i0 : Nat, i0 ≤ 15 ∧ i = .int .i64 (i0 : Nat) ∧ ExSt w24 W p b n (X ^ (2 * (2 * (2 * (2 * exh E d t)))) * W64 ^ n % M) pt hi sb (fun U => 1 ≤ kk → kk ≤ i0 → U = X ^ kk * W64 ^ n % M) wq) (fun i _ => 15 - (intOf i).toNat)
              case atStart => exact ⟨0, by omega, rfl, hT4.pu (fun _ _ h1 h2 => by omega)⟩
              case round =>
                clear hT4
                obtain ⟨i0, hi0, rfl, hT⟩ := hrel
                by_cases hl4 : i0 < 15
                · obtain ⟨_, _, hu8, _⟩ := hT.lts
                  have hRr := (hR24.keep hu8 (fun k h1 h2 h => by omega)).keep ((Upd.refl (fun _ => False) _).drew) (fun _ _ _ h => h)
                  have hci := hRr.cell i0 hl4
                  obtain ⟨i9, Hi9⟩ : ∃ q, Hid (q = i0 + 1) := ⟨_, rfl⟩
                  have hi9a := Nat.le_of_eq Hi9.out
                  have hi9b := Nat.le_of_eq Hi9.out.symm
                  have hsel := exSel (k := kk) (i := i0) hC1 hRr hl4 hT.drew
                  rw [← Hi9.out] at hsel
                  obtain ⟨z4, Hz4⟩ : ∃ z, Hid (z = eqN kk i9) := ⟨_, rfl⟩
                  have kc := fun w => ctEq_any kk i9 w (by omega) (by omega)
                  rw [← Hz4.out] at kc hsel
                  replace kc := Lib.hid kc
                  replace hsel := Lib.hid hsel
                  have j1 : (i0 : Int) < 15 := by omega
                  have j2 : (0 : Int) ≤ (i0 : Int) := by omega
                  have j3 : ((i0 : Int)).toNat = i0 := by omega
                  have e2 : IntKind.u64.wrap (i9 : Int) = (i9 : Int) := IntWalk.u64_in _ (by omega)
                  have e1 : IntKind.i64.wrap ((i0 : Int) + 1) = (i9 : Int) := by rw [w64 _ (by omega) (by omega)]; omega
                  clear hT hRr hu8
                  go_upto_block 7 with fail
                  go_cut [] (fun wx => ExSt w24 W p b n (X ^ (2 * (2 * (2 * (2 * exh E d t)))) * W64 ^ n % M) pt hi sb (fun U => 1 ≤ kk → kk ≤ i9 → U = X ^ kk * W64 ^ n % M) wx)
                  case first =>
                    go_wp2_with fail
                    go_region_with ((first | (go_at_call 95; with_reducible refine (kc.out _).mono ?_; rintro e w' ⟨rfl, rfl⟩) | (go_at_call 94; with_reducible refine hsel.out.mono ?_; rintro e w1 ⟨rfl, hst⟩)))
                    all_goals (go_wp2_with fail; go_meet)
                    all_goals exact hst
                  case rest =>
                    clear e1 e2 hci hsel kc
                    rw [Hi9.out] at hcut
                    go_wp2_with fail
                    go_roundw
                    case rel => exact ⟨i0 + 1, by omega, by go_num, hcut⟩
                    case measure => simp [intOf]; omega
                · obtain rfl : i0 = 15 := by omega
                  have hT5 := hT.pu (QU := fun U => 1 ≤ kk → U = X ^ kk * W64 ^ n % M) (fun U h1 h2 => h1 h2 (by omega))
                  clear hT
                  go_wp2_with fail
                  with_reducible refine (exMulT hC1 hT5).mono ?_
                  rintro e w41 ⟨rfl, hT6⟩
                  clear hT5
                  obtain ⟨zz, Hzz⟩ : ∃ z, Hid (z = eqN kk 0) := ⟨_, rfl⟩
                  have hzz : zz ≤ 1 := by rw [Hzz.out]; exact eqN_le _ _
                  have kc := ctEq_zero kk w41 (by omega)
                  have kf := exFin hC1 hT6
                  rw [← Hzz.out] at kc kf
                  rw [← HX.out] at kf
                  replace kc := Lib.hid kc
                  replace kf := Lib.hid kf
                  have kn := Lib.hid (not_any zz w41 hzz)
                  go_wp2_with fail
                  with_reducible refine kc.out.mono ?_
                  rintro e w' ⟨rfl, rfl⟩
                  go_wp2_with fail
                  with_reducible refine kn.out.mono ?_
                  rintro e w' ⟨rfl, rfl⟩
                  go_wp2_with fail
                  with_reducible refine kf.out.mono ?_
                  rintro e w44 ⟨rfl, hT7⟩
                  clear hT6 kc kn kf
                  go_wp2_with fail
                  go_roundw
                  case rel => exact ⟨t + 1, by omega, by go_num, hT7⟩
                  case measure => simp [intOf]; omega
            · obtain rfl : t = 2 := by omega
              have HN : Hid (exh E d 2 = be f (j + 1)) := by show _ = _; rw [exh_end, HE.out, HD.out]; rfl
              rw [HN.out] at hT
              have hO := hT.outer htbh2 (by omega) (by omega) hC.cwh
              go_wp2_with fail
              go_roundw
              case rel => exact ⟨j + 1, by omega, by go_num, hO⟩
              case measure => simp [intOf]; omega
        · obtain rfl : j = ne := by omega
          obtain ⟨bo, co, bt2, ct2, U, h1, h2, h3, h4, h5, h6, h7, h8, h9, h10, h11, h12, h13⟩ := hS
          have hmr := hC.hm.keep h13 (fun k hk h => by omega)
          have k5 := Lib.hid (montRed_any h1 hmr HO.out hp (by omega))
          go_wp2_with fail
          with_reducible refine k5.out.mono ?_
          rintro e w9 ⟨rfl, b9, c9, hx9, hb9, hu9⟩
          replace hb9 : b9 = bo ∨ wr.heap.size ≤ b9 := hb9
          have z9 := h13.size
          go_wp2_with fail
          go_ret
          exact ⟨rfl, b9, c9, hx9, by show _ ∨ _; omega, (hu024.then h13 (fun i hi h => by omega)).then hu9 (fun i hi h => by omega)⟩
end Go.Proofs.Ytpojonfopoobpaa
