/-
  Contracts of the reference's small and product.
  Contracts of the reference's taken and putBack.
  Contract of the reference's quotient.
-/
import Derived.Test.YtpojonfopoobpaaImplA
import Derived.Test.YtpojonfopoobpaaPlain
namespace Go.Proofs.Ytpojonfopoobpaa
open Go.RowKit

set_option maxRecDepth 100000 in
set_option maxHeartbeats 400000 in
theorem small_any (N : Nat) (w : World) (hN : N ≤ 9223372036854775807) :
    Calls Try.prog 103 #[.int .i64 N] w (RetNum w N) := by
  have hnd : nd N ≤ 4 := (nd_le_iff 4 N).2 (by omega)
  go_enter Try.func103, Try.ntmps103
  go_wp2
  go_loopw [0, 3] (fun x v wr => ∃ (M k : Nat) (a' : Option Addr) (c' : Nat), x = .int .i64 M ∧ v = .slice a' k c' ∧ M ≤ N ∧ Hid (M = N / 65536 ^ k) ∧ Hid (k + nd M = nd N) ∧ Grow .i64 3 wr w.heap.size a' c' k (dg 65536 N) ∧ Upd0 w wr) (fun x _ _ => (intOf x).toNat)
  case atStart => exact ⟨N, 0, _, _, rfl, rfl, Nat.le_refl _, by show _ = _; simp, by show _ = _; omega, Grow.made .i64 _ w w.heap.size #[] 0 _ (Nat.le_refl _) (by simp [maxLen]) rfl, (Upd.refl _ _).alloc _⟩
  case round =>
    obtain ⟨M, k, a', c', rfl, rfl, hM, HM, HK, hg, hu⟩ := hrel
    by_cases h0 : M = 0
    · subst h0
      have HKE : Hid (k = nd N) := by have := HK.out; rw [nd_zero] at this; show k = nd N; omega
      have hs := hg.sl
      rw [HKE.out] at hs
      go_wp2
      go_ret
      exact ⟨a', c', by rw [HKE.out]; rfl, hs, hu⟩
    · have hM0 : 0 < M := by omega
      have hk : k ≤ 4 := by have := HK.out; omega
      have hz := hu.size
      have HNX : Hid (M / 65536 = N / 65536 ^ (k + 1)) := by show _ = _; rw [HM.out, Nat.pow_succ, Nat.div_div_eq_div_mul]
      have HNK : Hid (k + 1 + nd (M / 65536) = nd N) := by
        have h1 := HK.out
        have h2 := nd_pos h0
        have h3 := blen_div_pow' M 16
        show _ = _
        rw [← h1]
        unfold nd at h2 ⊢
        rw [show (65536 : Nat) = 2 ^ 16 from rfl, h3]
        omega
      go_wp2_with (at_builtin; refine wpList_append_ints rfl (.tmp 9) (.tmp 12) 65 rfl w.heap.size 3 .i64 8 Try.underlying65 info_int a' c' k _ rfl (by exact hg.keep0 ((Upd.refl _ _).alloc _)) ⟨wr.heap.size, 0, none⟩ 1 1 (fun _ => M % 65536) rfl (by exact Rd.one (by simp)) (by omega) (by omega) (by simp; omega) ?_; intro a2 c2 w2 hg2 hu2)
      go_roundw
      case rel => exact ⟨M / 65536, k + 1, a2, c2, by go_num, rfl, by omega, HNX, HNK, hg2.congr fun t ht => by
        by_cases e : t < k
        · rw [if_pos e]
        · obtain rfl : t = k := by omega
          rw [if_neg e, HM.out]; rfl, hu.then (T := fun b => w.heap.size ≤ b) (((Upd.refl _ _).alloc _).then hu2 (fun i _ hi => (hg.block i hi).1)) (fun i h1 h2 => by omega)⟩
      case measure => simp [intOf]; omega

/-- Block b is a row of n cells of type e, none of them frozen. -/
def Blk (w : World) (b e n : Nat) : Prop := ∃ cur, w.heap[b]? = some (.cells cur e (0, 0)) ∧ cur.size = n
theorem Blk.made (w : World) (c e : Nat) (z : Array Value) (hz : z.size = c) : Blk (w.alloc (.cells z e)) w.heap.size e c := ⟨_, heap_alloc_new w _, hz⟩
theorem Blk.setCell {w : World} {b e n : Nat} (h : Blk w b e n) (i : Nat) (v : Value) : Blk (w.setCell ⟨b, i, none⟩ v) b e n := by
  obtain ⟨cur, h1, h2⟩ := h
  refine ⟨cur.setIfInBounds i v, ?_, by simpa using h2⟩
  simp only [World.setCell, Array.getElem?_modify, if_true, h1]
  rfl
theorem Blk.drewN {w : World} {b e n : Nat} (h : Blk w b e n) (k : Nat) : Blk (w.drewN k) b e n := h
theorem Blk.grow {k : IntKind} {w : World} {b e n c : Nat} {f : Nat → Nat} (h : Blk w b e c) (ho : Own k w b n f) (hn : n ≤ c) (hc : c ≤ 1048576) {base : Nat} (hb : base ≤ b) : Grow k e w base (some ⟨b, 0, none⟩) c n f := by
  obtain ⟨cur, h1, h2⟩ := h
  refine ⟨by simp, .inr ⟨b, c, cur, rfl, hb, h1, hn, by simp only [maxLen]; omega, by rw [h2, Nat.mul_one], ?_⟩⟩
  apply List.ext_getElem?
  intro i
  rw [Nat.mul_one, List.getElem?_take]
  by_cases hi : i < n
  · rw [if_pos hi]
    have h3 := ho.cell i hi
    simp only [World.cell?, h1] at h3
    simp only [Option.isSome_none, Bool.false_eq_true, if_false] at h3
    rw [Array.getElem?_toList, h3]
    simp [hi]
  · rw [if_neg hi]; simp [hi]
/-- A new number of the reference is returned; it may grow. -/
def RetGrow (w : World) (N : Nat) (e : Ending) (w' : World) : Prop :=
  ∃ a c, e = .returned (.slice a (nd N) c) ∧ Grow .i64 3 w' w.heap.size a c (nd N) (dg 65536 N) ∧ Upd0 w w'
theorem RetGrow.num {w : World} {N : Nat} {e : Ending} {w' : World} (h : RetGrow w N e w') : RetNum w N e w' := by
  obtain ⟨a, c, h1, h2, h3⟩ := h
  exact ⟨a, c, h1, h2.sl, h3⟩
set_option maxRecDepth 100000 in
set_option maxHeartbeats 1000000 in
theorem product_own (a a' : Option Addr) (c c' A B : Nat) (w : World) (hA : nd A ≤ 100000) (hB : nd B ≤ 100000) (hra : Rd .i64 w a (nd A) (dg 65536 A)) (hrb : Rd .i64 w a' (nd B) (dg 65536 B)) :
    Calls Try.prog 124 #[.slice a (nd A) c, .slice a' (nd B) c'] w (RetGrow w (A * B)) := by
  have HLA : Hid (A < 65536 ^ nd A) := lt_pow_nd A
  have HLB : Hid (B < 65536 ^ nd B) := lt_pow_nd B
  generalize nd A = la at *
  generalize nd B = lb at *
  have HLP : Hid (A * B < 65536 ^ (la + lb)) := by
    show A * B < 65536 ^ (la + lb)
    rw [Nat.pow_add]
    exact Nat.mul_lt_mul'' HLA.out HLB.out
  have hmk := make_num (la + lb) (by omega)
  rw [Int.natCast_add] at hmk
  go_enter Try.func124, Try.ntmps124
  go_wp2
  go_loopw [6] (fun s wr => ∃ i : Nat, i ≤ la ∧ s = .int .i64 i ∧ Own .i64 wr w.heap.size (la + lb) (dg 65536 (A % 65536 ^ i * B)) ∧ Blk wr w.heap.size 3 (la + lb) ∧ Upd0 w wr) (fun s _ => la - (intOf s).toNat)
  case atStart => exact ⟨0, Nat.zero_le _, rfl, (Own.made .i64 w (la + lb) _).congr (fun j hj => by rw [Nat.pow_zero, Nat.mod_one, Nat.zero_mul, dg_of_lt (Nat.pow_pos (by omega))]), Blk.made w _ _ _ (size_madeCells _ _), (Upd.refl _ _).alloc _⟩
  case round =>
    obtain ⟨i, hi, rfl, hown, hblk, hu⟩ := hrel
    clear hmk
    by_cases hlt : i < la
    · obtain ⟨wo, rfl⟩ : ∃ wo : World, wo = wr := ⟨_, rfl⟩
      obtain ⟨x, HX⟩ : ∃ x, Hid (x = dg 65536 A i) := ⟨_, rfl⟩
      have hx : x < 65536 := by rw [HX.out]; exact dg_lt (by omega) _ _
      obtain ⟨E0, HE0⟩ : ∃ E0, Hid (E0 = A % 65536 ^ i * B) := ⟨_, rfl⟩
      rw [← HE0.out] at hown
      have HE0L : Hid (E0 < 65536 ^ (i + lb)) := by
        show E0 < 65536 ^ (i + lb)
        rw [HE0.out, Nat.pow_add]
        exact Nat.mul_lt_mul'' (Nat.mod_lt _ (Nat.pow_pos (by omega))) HLB.out
      go_wp2_with fail
      go_loopw [7, 8] (fun q s wr => ∃ c k : Nat, k ≤ lb ∧ s = .int .i64 k ∧ q = .int .i64 c ∧ c < 65536 ∧ Hid ((E0 + x * (B % 65536 ^ k) * 65536 ^ i) / 65536 ^ (i + k) = E0 / 65536 ^ (i + k) + c) ∧ Own .i64 wr w.heap.size (la + lb) (fun j => if j < i + k then dg 65536 (E0 + x * (B % 65536 ^ k) * 65536 ^ i) j else dg 65536 E0 j) ∧ Blk wr w.heap.size 3 (la + lb) ∧ Upd0 w wr) (fun _ s _ => lb - (intOf s).toNat)
      case atStart => exact ⟨0, 0, Nat.zero_le _, rfl, rfl, by omega, by show _ = _; simp [Nat.mod_one], hown.congr fun j hj => by simp [Nat.mod_one], hblk, hu⟩
      case round =>
        clear hown hu hblk
        obtain ⟨c, k, hk, rfl, rfl, hc, HC, hown, hblk, hu⟩ := hrel
        by_cases hltk : k < lb
        · obtain ⟨b1, o1, x', rfl, hcell1, hx', HX'⟩ := num_cell (hra.keep hu) hlt
          obtain ⟨b2, o2, y, rfl, hcell2, hy, HY⟩ := num_cell (hrb.keep hu) hltk
          obtain rfl : x' = x := by rw [HX'.out, HX.out]
          have hcell3 := hown.cell (i + k) (by omega)
          have hfree3 := hown.free (i + k) (by omega)
          rw [if_neg (Nat.lt_irrefl _)] at hcell3
          obtain ⟨o, HO⟩ : ∃ o, Hid (o = dg 65536 E0 (i + k)) := ⟨_, rfl⟩
          have ho : o < 65536 := by rw [HO.out]; exact dg_lt (by omega) _ _
          rw [← HO.out] at hcell3
          obtain ⟨t, HT⟩ : ∃ t, Hid (t = x' * y) := ⟨_, rfl⟩
          have ht : t ≤ 4294836225 := by
            rw [HT.out]
            exact Nat.mul_le_mul (show x' ≤ 65535 by omega) (show y ≤ 65535 by omega)
          have ep : IntKind.i64.wrap ((x' : Int) * (y : Int)) = (t : Int) := by
            rw [show (x' : Int) * (y : Int) = ((x' * y : Nat) : Int) from by simp, ← HT.out]
            exact w64 _ (by omega) (by omega)
          have HST := mul_step (b := 65536) (by omega) (t := t) HC.out
          have HEE : E0 + x' * (B % 65536 ^ k) * 65536 ^ i + t * 65536 ^ (i + k) = E0 + x' * (B % 65536 ^ (k + 1)) * 65536 ^ i := by
            rw [mod_succ, ← HY.out, HT.out, Nat.pow_add, Nat.mul_add, Nat.add_mul, Nat.add_assoc]
            congr 1
            congr 1
            rw [Nat.mul_assoc, Nat.mul_assoc, Nat.mul_assoc]
            congr 1
            rw [Nat.mul_comm (65536 ^ i), ← Nat.mul_assoc, ← Nat.mul_assoc, Nat.mul_comm y]
          rw [HEE, ← HO.out] at HST
          have HST := Lib.hid HST
          clear HEE
          have i1 : (i : Int) < (la : Int) := by omega
          have i2 : (0 : Int) ≤ (i : Int) := by omega
          have i3 : ((i : Int)).toNat = i := by omega
          have i4 : (k : Int) < (lb : Int) := by omega
          have i5 : (0 : Int) ≤ (k : Int) := by omega
          have i6 : ((k : Int)).toNat = k := by omega
          have i7 : (i : Int) + (k : Int) < (la : Int) + (lb : Int) := by omega
          have i8 : (0 : Int) ≤ (i : Int) + (k : Int) := by omega
          have i9 : ((i : Int) + (k : Int)).toNat = i + k := by omega
          have e1 := w64 ((i : Int) + (k : Int)) (by omega) (by omega)
          have e2 := w64 ((c : Int) + (o : Int)) (by omega) (by omega)
          have e3 := w64 ((c : Int) + (o : Int) + (t : Int)) (by omega) (by omega)
          go_wp2_with fail
          go_quiet (fail)
          clear e1 e2 e3 ep
          go_wp2
          go_roundw
          case rel => exact ⟨(c + o + t) / 65536, k + 1, by omega, by go_num, by go_num, by omega, HST.out.2.2, by
            have h := (hown.drewN nq).set (i := i + k) (by omega) ((c + o + t) % 65536)
            rw [show (((c + o + t) % 65536 : Nat) : Int) = ((c : Int) + (o : Int) + (t : Int)) % 65536 from by omega] at h
            refine h.congr fun j hj => ?_
            by_cases e : j = i + k
            · subst e; rw [if_pos rfl, if_pos (by omega), HST.out.2.1]
            · rw [if_neg e]
              by_cases e2 : j < i + k
              · rw [if_pos e2, if_pos (by omega), HST.out.1 j e2]
              · rw [if_neg e2, if_neg (by omega)], (hblk.drewN nq).setCell _ _, (hu.drewN nq).setCell _ _ (fun h => by simp at h)⟩
          case measure => simp [intOf]; omega
        · obtain rfl : k = lb := by omega
          have hcell3 := hown.cell (i + k) (by omega)
          have hfree3 := hown.free (i + k) (by omega)
          obtain ⟨o, HO⟩ : ∃ o, Hid (o = (if i + k < i + k then dg 65536 (E0 + x * (B % 65536 ^ k) * 65536 ^ i) (i + k) else dg 65536 E0 (i + k))) := ⟨_, rfl⟩
          rw [← HO.out] at hcell3
          have HE1 : Hid (E0 + x * (B % 65536 ^ k) * 65536 ^ i = A % 65536 ^ (i + 1) * B) := by
            show _ = _
            rw [Nat.mod_eq_of_lt HLB.out, mod_succ, ← HX.out, HE0.out, Nat.add_mul]
            congr 1
            rw [Nat.mul_comm (65536 ^ i), Nat.mul_right_comm]
          have HCE : Hid (dg 65536 (A % 65536 ^ (i + 1) * B) (i + k) = c) := by
            have h1 := HC.out
            rw [HE1.out, Nat.div_eq_of_lt HE0L.out, Nat.zero_add] at h1
            show _ = _
            unfold dg
            rw [h1]
            exact Nat.mod_eq_of_lt hc
          have HLL : Hid (A % 65536 ^ (i + 1) * B < 65536 ^ (i + 1 + k)) := by
            show A % 65536 ^ (i + 1) * B < 65536 ^ (i + 1 + k)
            rw [Nat.pow_add 65536 (i + 1) k]
            exact Nat.mul_lt_mul'' (Nat.mod_lt _ (Nat.pow_pos (by omega))) HLB.out
          go_wp2
          go_roundw
          case rel => exact ⟨i + 1, by omega, by go_num, by
            have h := hown.set (i := i + k) (by omega) c
            refine h.congr fun j hj => ?_
            by_cases e : j = i + k
            · subst e; rw [if_pos rfl, HCE.out]
            · rw [if_neg e]
              by_cases e2 : j < i + k
              · rw [if_pos e2, HE1.out]
              · rw [if_neg e2, dg_of_lt' (i := j) (by omega) HE0L.out (by omega), dg_of_lt' (i := j) (by omega) HLL.out (by omega)], hblk.setCell _ _, hu.setCell _ _ (fun h => by simp at h)⟩
          case measure => simp [intOf]; omega
    · obtain rfl : i = la := by omega
      have hgr := hblk.grow ((hown.le ((nd_le_iff _ _).2 HLP.out)).congr (fun j hj => by rw [Nat.mod_eq_of_lt HLA.out])) ((nd_le_iff _ _).2 HLP.out) (by omega) (Nat.le_refl _)
      have HR : Rd .i64 wr (some ⟨w.heap.size, 0, none⟩) (i + lb) (dg 65536 (A * B)) := hown.rd.congr (fun j hj => by rw [Nat.mod_eq_of_lt HLA.out])
      clear hown
      go_wp2_with fail
      refine (trimmed_any _ _ _ _ _ (by omega) (Nat.le_refl _) HLP.out HR).mono ?_
      rintro e w' ⟨rfl, rfl⟩
      go_wp2_with fail
      go_ret
      exact ⟨_, _, rfl, hgr, hu⟩

theorem product_any (a a' : Option Addr) (c c' A B : Nat) (w : World) (hA : nd A ≤ 100000) (hB : nd B ≤ 100000) (hra : Rd .i64 w a (nd A) (dg 65536 A)) (hrb : Rd .i64 w a' (nd B) (dg 65536 B)) :
    Calls Try.prog 124 #[.slice a (nd A) c, .slice a' (nd B) c'] w (RetNum w (A * B)) :=
  (product_own a a' c c' A B w hA hB hra hrb).mono fun _ _ h => h.num
end Go.Proofs.Ytpojonfopoobpaa

namespace Go.Proofs.Ytpojonfopoobpaa
open Go.RowKit

/-- What stands behind taken: D was taken from U, where it could be; else there is M more. -/
def TakenPost (w : World) (g lu U D M : Nat) (e : Ending) (w' : World) : Prop :=
  (D ≤ U → e = .returned (.bool true) ∧ Own .i64 w' g lu (dg 65536 (U - D))) ∧ (¬ D ≤ U → e = .returned (.bool false) ∧ Own .i64 w' g lu (dg 65536 (U + M - D))) ∧ Upd (fun k => k = g) w w'
/-- What stands behind putBack: D was put to U, less M where that goes round. -/
def PutPost (w : World) (g lu U D M : Nat) (e : Ending) (w' : World) : Prop :=
  (M ≤ U + D → e = .returned (.bool true) ∧ Own .i64 w' g lu (dg 65536 (U + D - M))) ∧ (¬ M ≤ U + D → e = .returned (.bool false) ∧ Own .i64 w' g lu (dg 65536 (U + D))) ∧ Upd (fun k => k = g) w w'
set_option maxRecDepth 100000 in
set_option maxHeartbeats 1000000 in
theorem taken_any (g lu cu : Nat) (av : Option Addr) (cv U V t q : Nat) (w : World) (hlu : lu ≤ 1000000) (hq : q ≤ 65535) (hfit : t + nd V < lu)
    (hU : U < 65536 ^ (t + (nd V + 1))) (hown : Own .i64 w g lu (dg 65536 U)) (hrv : Rd .i64 w av (nd V) (dg 65536 V)) (hne : ∀ b off, av = some ⟨b, off, none⟩ → b ≠ g) :
    Calls Try.prog 147 #[.slice (some ⟨g, 0, none⟩) lu cu, .slice av (nd V) cv, .int .i64 t, .int .i64 q] w (TakenPost w g lu U (q * V * 65536 ^ t) (65536 ^ (t + (nd V + 1)))) := by
  have HLV : Hid (V < 65536 ^ nd V) := lt_pow_nd V
  have HU := Lib.hid hU
  generalize nd V = lv at *
  clear hU
  go_enter Try.func147, Try.ntmps147
  go_wp2
  go_loopw [9, 10] (fun s9 s10 wr => ∃ i o Z : Nat, i ≤ lv + 1 ∧ s10 = .int .i64 i ∧ s9 = .int .i64 o ∧ o ≤ q ∧ Hid (Z < 65536 ^ (t + i)) ∧ Hid (Z + q * (V % 65536 ^ i) * 65536 ^ t = U % 65536 ^ (t + i) + o * 65536 ^ (t + i)) ∧ Own .i64 wr g lu (fun j => if j < t + i then dg 65536 Z j else dg 65536 U j) ∧ Upd (fun k => k = g) w wr) (fun _ s _ => lv + 1 - (intOf s).toNat)
  case atStart => exact ⟨0, 0, U % 65536 ^ t, Nat.zero_le _, rfl, rfl, Nat.zero_le _, Nat.mod_lt _ (Nat.pow_pos (by omega)), by show _ = _; simp [Nat.mod_one], hown.congr fun j hj => by
    rw [Nat.add_zero]
    by_cases e : j < t
    · rw [if_pos e, dg_mod_lt (by omega) e]
    · rw [if_neg e], .refl _ _⟩
  case round =>
    clear hown
    obtain ⟨i, o, Z, hi, rfl, rfl, ho, HZ, HI, hown, hu⟩ := hrel
    by_cases hlt : i ≤ lv
    · have hcell1 := hown.cell (t + i) (by omega)
      have hfree1 := hown.free (t + i) (by omega)
      rw [if_neg (by omega)] at hcell1
      obtain ⟨u, Hu⟩ : ∃ u, Hid (u = dg 65536 U (t + i)) := ⟨_, rfl⟩
      have hub : u < 65536 := by rw [Hu.out]; exact dg_lt (by omega) _ _
      rw [← Hu.out] at hcell1
      by_cases hltv : i < lv
      · obtain ⟨b2, o2, y, rfl, hcell2, hy, HY⟩ : ∃ b off d, av = some ⟨b, off, none⟩ ∧ wr.cell? ⟨b, off + i, none⟩ = some (.int .i64 (d : Nat)) ∧ d < 65536 ∧ Hid (d = dg 65536 V i) := by
          obtain ⟨b, off, d, rfl, h1, h2, h3⟩ := num_cell hrv hltv
          exact ⟨b, off, d, rfl, hu.cell (p := ⟨b, off + i, none⟩) (hne b off rfl) h1, h2, h3⟩
        obtain ⟨p, HP⟩ : ∃ p, Hid (p = q * y) := ⟨_, rfl⟩
        have hp1 : p ≤ q * 65535 := by rw [HP.out]; exact Nat.mul_le_mul_left _ (by omega)
        have ep : IntKind.i64.wrap ((q : Int) * (y : Int)) = (p : Int) := by
          rw [show (q : Int) * (y : Int) = ((q * y : Nat) : Int) from by simp, ← HP.out]
          exact w64 _ (by omega) (by omega)
        have ep2 : (q : Int) * (y : Int) = (p : Int) := by rw [HP.out]; simp
        by_cases hneg : u < o + p
        · have hst : Hid _ := take_step (b := 65536) (x := u + (o + p - u + 65535) / 65536 * 65536 - o - p) (o' := (o + p - u + 65535) / 65536) (by omega) HZ.out HI.out (by omega) (by rw [← HY.out, ← HP.out, ← Hu.out]; omega)
          go_wp2
          go_roundw
          case rel => exact ⟨i + 1, ((o + p - u + 65535) / 65536), Z + (u + (o + p - u + 65535) / 65536 * 65536 - o - p) * 65536 ^ (t + i), by omega, by go_num, by congr 1 <;> omega, by omega, hst.out.1, hst.out.2.1, by
            have h := hown.set (i := t + i) (by omega) (u + (o + p - u + 65535) / 65536 * 65536 - o - p)
            rw [show (((u + (o + p - u + 65535) / 65536 * 65536 - o - p) : Nat) : Int) = (u : Int) - (o : Int) - (p : Int) + (-((u : Int) - (o : Int) - (p : Int)) + 65536 - 1) / 65536 * 65536 from by omega] at h
            refine h.congr fun j hj => ?_
            by_cases e : j = t + i
            · subst e; rw [if_pos rfl, if_pos (by omega), hst.out.2.2.2]
            · rw [if_neg e]
              by_cases e2 : j < t + i
              · rw [if_pos e2, if_pos (by omega), hst.out.2.2.1 j e2]
              · rw [if_neg e2, if_neg (by omega)], hu.setCell _ _ (fun _ => rfl)⟩
          case measure => simp [intOf]; omega
        · have hst : Hid _ := take_step (b := 65536) (x := u - o - p) (o' := 0) (by omega) HZ.out HI.out (by omega) (by rw [← HY.out, ← HP.out, ← Hu.out]; omega)
          go_wp2
          go_roundw
          case rel => exact ⟨i + 1, 0, Z + (u - o - p) * 65536 ^ (t + i), by omega, by go_num, by congr 1 <;> omega, by omega, hst.out.1, hst.out.2.1, by
            have h := hown.set (i := t + i) (by omega) (u - o - p)
            rw [show (((u - o - p) : Nat) : Int) = (u : Int) - (o : Int) - (p : Int) from by omega] at h
            refine h.congr fun j hj => ?_
            by_cases e : j = t + i
            · subst e; rw [if_pos rfl, if_pos (by omega), hst.out.2.2.2]
            · rw [if_neg e]
              by_cases e2 : j < t + i
              · rw [if_pos e2, if_pos (by omega), hst.out.2.2.1 j e2]
              · rw [if_neg e2, if_neg (by omega)], hu.setCell _ _ (fun _ => rfl)⟩
          case measure => simp [intOf]; omega
      · have HV0 : Hid (dg 65536 V i = 0) := dg_of_lt' (by omega) HLV.out (by omega)
        by_cases hneg : u < o
        · have hst : Hid _ := take_step (b := 65536) (x := u + (o - u + 65535) / 65536 * 65536 - o) (o' := (o - u + 65535) / 65536) (by omega) HZ.out HI.out (by omega) (by rw [HV0.out, Nat.mul_zero, ← Hu.out]; omega)
          go_wp2
          go_roundw
          case rel => exact ⟨i + 1, ((o - u + 65535) / 65536), Z + (u + (o - u + 65535) / 65536 * 65536 - o) * 65536 ^ (t + i), by omega, by go_num, by congr 1 <;> omega, by omega, hst.out.1, hst.out.2.1, by
            have h := hown.set (i := t + i) (by omega) (u + (o - u + 65535) / 65536 * 65536 - o)
            rw [show (((u + (o - u + 65535) / 65536 * 65536 - o) : Nat) : Int) = (u : Int) - (o : Int) + (-((u : Int) - (o : Int)) + 65536 - 1) / 65536 * 65536 from by omega] at h
            refine h.congr fun j hj => ?_
            by_cases e : j = t + i
            · subst e; rw [if_pos rfl, if_pos (by omega), hst.out.2.2.2]
            · rw [if_neg e]
              by_cases e2 : j < t + i
              · rw [if_pos e2, if_pos (by omega), hst.out.2.2.1 j e2]
              · rw [if_neg e2, if_neg (by omega)], hu.setCell _ _ (fun _ => rfl)⟩
          case measure => simp [intOf]; omega
        · have hst : Hid _ := take_step (b := 65536) (x := u - o) (o' := 0) (by omega) HZ.out HI.out (by omega) (by rw [HV0.out, Nat.mul_zero, ← Hu.out]; omega)
          go_wp2
          go_roundw
          case rel => exact ⟨i + 1, 0, Z + (u - o) * 65536 ^ (t + i), by omega, by go_num, by congr 1 <;> omega, by omega, hst.out.1, hst.out.2.1, by
            have h := hown.set (i := t + i) (by omega) (u - o)
            rw [show (((u - o) : Nat) : Int) = (u : Int) - (o : Int) from by omega] at h
            refine h.congr fun j hj => ?_
            by_cases e : j = t + i
            · subst e; rw [if_pos rfl, if_pos (by omega), hst.out.2.2.2]
            · rw [if_neg e]
              by_cases e2 : j < t + i
              · rw [if_pos e2, if_pos (by omega), hst.out.2.2.1 j e2]
              · rw [if_neg e2, if_neg (by omega)], hu.setCell _ _ (fun _ => rfl)⟩
          case measure => simp [intOf]; omega
    · obtain rfl : i = lv + 1 := by omega
      have HV1 : V % 65536 ^ (lv + 1) = V := Nat.mod_eq_of_lt (Nat.lt_trans HLV.out (Nat.pow_lt_pow_right (by omega) (by omega)))
      have HI2 := HI.out
      rw [HV1, Nat.mod_eq_of_lt HU.out] at HI2
      have HM : q * V * 65536 ^ t < 65536 ^ (t + (lv + 1)) := by
        rw [Nat.pow_add, Nat.mul_comm (65536 ^ t), Nat.pow_succ, Nat.mul_comm (65536 ^ lv)]
        refine Nat.mul_lt_mul_of_pos_right ?_ (Nat.pow_pos (by omega))
        exact Nat.mul_lt_mul'' (show q < 65536 by omega) HLV.out
      have HZo := HZ.out
      have HOO : Hid (∀ i, i < lu → (if i < t + (lv + 1) then dg 65536 Z i else dg 65536 U i) = dg 65536 Z i) := fun i _ => by
        by_cases e : i < t + (lv + 1)
        · rw [if_pos e]
        · rw [if_neg e, dg_of_lt' (i := i) (by omega) HU.out (by omega), dg_of_lt' (i := i) (by omega) HZ.out (by omega)]
      have hown2 := hown.congr HOO.out
      have HEND : Hid ((o = 0 → q * V * 65536 ^ t ≤ U ∧ U - q * V * 65536 ^ t = Z) ∧ (o ≠ 0 → ¬ q * V * 65536 ^ t ≤ U ∧ U + 65536 ^ (t + (lv + 1)) - q * V * 65536 ^ t = Z)) := by
        have h2 := HU.out
        generalize q * V * 65536 ^ t = D at *
        generalize 65536 ^ (t + (lv + 1)) = M at *
        constructor
        · rintro rfl; rw [Nat.zero_mul] at HI2; omega
        · intro h0
          have h1 : o = 1 := by
            rcases Nat.lt_or_ge o 2 with h | h
            · omega
            · have := Nat.mul_le_mul_right M h
              omega
          subst h1
          rw [Nat.one_mul] at HI2
          omega
      clear hown HI2 HM HZo HV1
      by_cases h0 : o = 0
      · subst h0
        have HE := HEND.out.1 rfl
        replace HE := Lib.hid HE
        go_wp2
        go_ret
        exact ⟨fun _ => ⟨rfl, by rw [HE.out.2]; exact hown2⟩, fun h => absurd HE.out.1 h, hu⟩
      · have h0' : ((o : Int) == 0) = false := by rw [beq_eq_false_iff_ne]; omega
        have HE := HEND.out.2 h0
        replace HE := Lib.hid HE
        go_wp2
        go_ret
        exact ⟨fun h => absurd h HE.out.1, fun _ => ⟨rfl, by rw [HE.out.2]; exact hown2⟩, hu⟩

set_option maxRecDepth 100000 in
set_option maxHeartbeats 1000000 in
theorem putBack_any (g lu cu : Nat) (av : Option Addr) (cv U V t : Nat) (w : World) (hlu : lu ≤ 1000000) (hfit : t + nd V < lu)
    (hU : U < 65536 ^ (t + (nd V + 1))) (hown : Own .i64 w g lu (dg 65536 U)) (hrv : Rd .i64 w av (nd V) (dg 65536 V)) (hne : ∀ b off, av = some ⟨b, off, none⟩ → b ≠ g) :
    Calls Try.prog 148 #[.slice (some ⟨g, 0, none⟩) lu cu, .slice av (nd V) cv, .int .i64 t] w (PutPost w g lu U (V * 65536 ^ t) (65536 ^ (t + (nd V + 1)))) := by
  have HLV : Hid (V < 65536 ^ nd V) := lt_pow_nd V
  have HU := Lib.hid hU
  generalize nd V = lv at *
  clear hU
  go_enter Try.func148, Try.ntmps148
  go_wp2
  go_loopw [7, 8] (fun s9 s10 wr => ∃ i o Z : Nat, i ≤ lv + 1 ∧ s10 = .int .i64 i ∧ s9 = .int .i64 o ∧ o ≤ 1 ∧ Hid (Z < 65536 ^ (t + i)) ∧ Hid (Z + o * 65536 ^ (t + i) = U % 65536 ^ (t + i) + V % 65536 ^ i * 65536 ^ t) ∧ Own .i64 wr g lu (fun j => if j < t + i then dg 65536 Z j else dg 65536 U j) ∧ Upd (fun k => k = g) w wr) (fun _ s _ => lv + 1 - (intOf s).toNat)
  case atStart => exact ⟨0, 0, U % 65536 ^ t, Nat.zero_le _, rfl, rfl, Nat.zero_le _, Nat.mod_lt _ (Nat.pow_pos (by omega)), by show _ = _; simp [Nat.mod_one], hown.congr fun j hj => by
    rw [Nat.add_zero]
    by_cases e : j < t
    · rw [if_pos e, dg_mod_lt (by omega) e]
    · rw [if_neg e], .refl _ _⟩
  case round =>
    clear hown
    obtain ⟨i, o, Z, hi, rfl, rfl, ho, HZ, HI, hown, hu⟩ := hrel
    by_cases hlt : i ≤ lv
    · have hcell1 := hown.cell (t + i) (by omega)
      have hfree1 := hown.free (t + i) (by omega)
      rw [if_neg (by omega)] at hcell1
      obtain ⟨u, Hu⟩ : ∃ u, Hid (u = dg 65536 U (t + i)) := ⟨_, rfl⟩
      have hub : u < 65536 := by rw [Hu.out]; exact dg_lt (by omega) _ _
      rw [← Hu.out] at hcell1
      by_cases hltv : i < lv
      · obtain ⟨b2, o2, y, rfl, hcell2, hy, HY⟩ : ∃ b off d, av = some ⟨b, off, none⟩ ∧ wr.cell? ⟨b, off + i, none⟩ = some (.int .i64 (d : Nat)) ∧ d < 65536 ∧ Hid (d = dg 65536 V i) := by
          obtain ⟨b, off, d, rfl, h1, h2, h3⟩ := num_cell hrv hltv
          exact ⟨b, off, d, rfl, hu.cell (p := ⟨b, off + i, none⟩) (hne b off rfl) h1, h2, h3⟩
        have hst : Hid _ := put_step (b := 65536) (T := o + u + y) (by omega) HZ.out HI.out (by rw [← HY.out, ← Hu.out])
        go_wp2
        go_roundw
        case rel => exact ⟨i + 1, (o + u + y) / 65536, Z + (o + u + y) % 65536 * 65536 ^ (t + i), by omega, by go_num, by congr 1 <;> omega, by omega, hst.out.1, hst.out.2.1, by
          have h := hown.set (i := t + i) (by omega) ((o + u + y) % 65536)
          rw [show (((o + u + y) % 65536 : Nat) : Int) = ((o : Int) + (u : Int) + (y : Int)) % 65536 from by omega] at h
          refine h.congr fun j hj => ?_
          by_cases e : j = t + i
          · subst e; rw [if_pos rfl, if_pos (by omega), hst.out.2.2.2]
          · rw [if_neg e]
            by_cases e2 : j < t + i
            · rw [if_pos e2, if_pos (by omega), hst.out.2.2.1 j e2]
            · rw [if_neg e2, if_neg (by omega)], hu.setCell _ _ (fun _ => rfl)⟩
        case measure => simp [intOf]; omega
      · have HV0 : Hid (dg 65536 V i = 0) := dg_of_lt' (by omega) HLV.out (by omega)
        have hst : Hid _ := put_step (b := 65536) (T := o + u) (by omega) HZ.out HI.out (by rw [HV0.out, ← Hu.out]; rfl)
        go_wp2
        go_roundw
        case rel => exact ⟨i + 1, (o + u) / 65536, Z + (o + u) % 65536 * 65536 ^ (t + i), by omega, by go_num, by congr 1 <;> omega, by omega, hst.out.1, hst.out.2.1, by
          have h := hown.set (i := t + i) (by omega) ((o + u) % 65536)
          rw [show (((o + u) % 65536 : Nat) : Int) = ((o : Int) + (u : Int)) % 65536 from by omega] at h
          refine h.congr fun j hj => ?_
          by_cases e : j = t + i
          · subst e; rw [if_pos rfl, if_pos (by omega), hst.out.2.2.2]
          · rw [if_neg e]
            by_cases e2 : j < t + i
            · rw [if_pos e2, if_pos (by omega), hst.out.2.2.1 j e2]
            · rw [if_neg e2, if_neg (by omega)], hu.setCell _ _ (fun _ => rfl)⟩
        case measure => simp [intOf]; omega
    · obtain rfl : i = lv + 1 := by omega
      have HV1 : V % 65536 ^ (lv + 1) = V := Nat.mod_eq_of_lt (Nat.lt_trans HLV.out (Nat.pow_lt_pow_right (by omega) (by omega)))
      have HI2 := HI.out
      rw [HV1, Nat.mod_eq_of_lt HU.out] at HI2
      have HZo := HZ.out
      have HOO : Hid (∀ i, i < lu → (if i < t + (lv + 1) then dg 65536 Z i else dg 65536 U i) = dg 65536 Z i) := fun i _ => by
        by_cases e : i < t + (lv + 1)
        · rw [if_pos e]
        · rw [if_neg e, dg_of_lt' (i := i) (by omega) HU.out (by omega), dg_of_lt' (i := i) (by omega) HZ.out (by omega)]
      have hown2 := hown.congr HOO.out
      have HEND : Hid ((o = 0 → ¬ 65536 ^ (t + (lv + 1)) ≤ U + V * 65536 ^ t ∧ U + V * 65536 ^ t = Z) ∧ (o = 1 → 65536 ^ (t + (lv + 1)) ≤ U + V * 65536 ^ t ∧ U + V * 65536 ^ t - 65536 ^ (t + (lv + 1)) = Z)) := by
        generalize V * 65536 ^ t = D at *
        generalize 65536 ^ (t + (lv + 1)) = M at *
        constructor
        · rintro rfl; rw [Nat.zero_mul] at HI2; omega
        · rintro rfl; rw [Nat.one_mul] at HI2; omega
      clear hown HI2 HZo HV1
      by_cases h0 : o = 0
      · subst h0
        have HE := HEND.out.1 rfl
        replace HE := Lib.hid HE
        go_wp2
        go_ret
        exact ⟨fun h => absurd h HE.out.1, fun _ => ⟨rfl, by rw [HE.out.2]; exact hown2⟩, hu⟩
      · obtain rfl : o = 1 := by omega
        have HE := HEND.out.2 rfl
        replace HE := Lib.hid HE
        go_wp2
        go_ret
        exact ⟨fun _ => ⟨rfl, by rw [HE.out.2]; exact hown2⟩, fun h => absurd HE.out.1 h, hu⟩
end Go.Proofs.Ytpojonfopoobpaa

namespace Go.Proofs.Ytpojonfopoobpaa
open Go.RowKit

def fitB (D U : Nat) : Bool := decide (D ≤ U)
def leftN (U D M : Nat) : Nat := if D ≤ U then U - D else U + M - D
theorem TakenPost.out {w : World} {g lu U D M : Nat} {e : Ending} {w' : World} (h : TakenPost w g lu U D M e w') : e = .returned (.bool (fitB D U)) ∧ Own .i64 w' g lu (dg 65536 (leftN U D M)) ∧ Upd (fun k => k = g) w w' := by
  by_cases hD : D ≤ U
  · obtain ⟨h1, h2⟩ := h.1 hD
    exact ⟨by rw [h1, fitB, decide_eq_true hD], by rw [leftN, if_pos hD]; exact h2, h.2.2⟩
  · obtain ⟨h1, h2⟩ := h.2.1 hD
    exact ⟨by rw [h1, fitB, decide_eq_false hD], by rw [leftN, if_neg hD]; exact h2, h.2.2⟩
/-- Putting back once where too much had been taken. -/
theorem PutPost.out {w : World} {g lu R D x M : Nat} {e : Ending} {w' : World} (h : PutPost w g lu (leftN R (x * D) M) D M e w') (hx : fitB (x * D) R = false) (hM : x * D ≤ M) (hx0 : 0 < x) :
    e = .returned (.bool (fitB ((x - 1) * D) R)) ∧ Own .i64 w' g lu (dg 65536 (leftN R ((x - 1) * D) M)) ∧ Upd (fun k => k = g) w w' := by
  have h1 : ¬ x * D ≤ R := of_decide_eq_false hx
  have h2 : (x - 1) * D + D = x * D := by
    obtain ⟨y, rfl⟩ : ∃ y, x = y + 1 := ⟨x - 1, by omega⟩
    rw [Nat.add_sub_cancel, Nat.add_mul, Nat.one_mul]
  rw [leftN, if_neg h1] at h
  by_cases hD : (x - 1) * D ≤ R
  · obtain ⟨h3, h4⟩ := h.1 (by omega)
    refine ⟨by rw [h3, fitB, decide_eq_true hD], ?_, h.2.2⟩
    rw [leftN, if_pos hD, show R - (x - 1) * D = R + M - x * D + D - M by omega]; exact h4
  · obtain ⟨h3, h4⟩ := h.2.1 (by omega)
    refine ⟨by rw [h3, fitB, decide_eq_false hD], ?_, h.2.2⟩
    rw [leftN, if_neg hD, show R + M - (x - 1) * D = R + M - x * D + D by omega]; exact h4
theorem leftN_lt {R D M : Nat} (h : R < M) (_hD : D ≤ M) : leftN R D M < M := by unfold leftN; split <;> omega

/-- The pair of quotient and rest is returned. -/
def RetQuot (w : World) (Q R : Nat) (e : Ending) (w' : World) : Prop :=
  ∃ a c a' c', e = .returned (.tuple #[.slice a (nd Q) c, .slice a' (nd R) c']) ∧ Sl .i64 w' a (nd Q) c (dg 65536 Q) ∧ Sl .i64 w' a' (nd R) c' (dg 65536 R) ∧ Upd0 w w'

set_option maxRecDepth 100000 in
set_option maxHeartbeats 1000000 in
theorem quotient_less (a a' : Option Addr) (c c' A B : Nat) (w : World) (hA : nd A ≤ 10000) (hB : nd B ≤ 10000) (hlt : A < B) (hsa : Sl .i64 w a (nd A) c (dg 65536 A)) (hsb : Sl .i64 w a' (nd B) c' (dg 65536 B)) :
    Calls Try.prog 123 #[.slice a (nd A) c, .slice a' (nd B) c'] w (RetQuot w (A / B) (A % B)) := by
  have hd : decide (A < B) = true := decide_eq_true hlt
  replace hd := Lib.hid hd
  have HE : Hid (A / B = 0 ∧ A % B = A) := ⟨Nat.div_eq_of_lt hlt, Nat.mod_eq_of_lt hlt⟩
  clear hlt
  go_enter Try.func123, Try.ntmps123
  go_wp2_with fail
  refine (less_any _ _ _ _ _ _ _ (by omega) (by omega) hsa.rd hsb.rd).mono ?_
  rw [hd.out]
  rintro e w1 ⟨rfl, k, rfl⟩
  go_wp2
  go_ret2
  exact ⟨some ⟨w.heap.size, 0, none⟩, 0, a, c, by rw [HE.out.1, HE.out.2]; rfl, ⟨by rw [HE.out.1]; exact Nat.le_refl _, by rw [HE.out.1]; exact .nil _ _ _, fun e => by cases e⟩, by
    rw [HE.out.2]; exact hsa.keep (((Upd.refl _ _).drewN k).alloc _), ((Upd.refl _ _).drewN k).alloc _⟩

set_option maxRecDepth 100000 in
set_option maxHeartbeats 1000000 in
theorem quotient_one (a a' : Option Addr) (c c' A B : Nat) (w : World) (hA : nd A ≤ 10000) (hB : nd B = 1) (hlt : ¬ A < B) (hsa : Sl .i64 w a (nd A) c (dg 65536 A)) (hsb : Sl .i64 w a' (nd B) c' (dg 65536 B)) :
    Calls Try.prog 123 #[.slice a (nd A) c, .slice a' (nd B) c'] w (RetQuot w (A / B) (A % B)) := by
  have hd : decide (A < B) = false := decide_eq_false hlt
  replace hd := Lib.hid hd
  have hB1 : B < 65536 := by have := lt_pow_nd B; rw [hB] at this; simpa using this
  have hB0 : 0 < B := by
    rcases Nat.eq_zero_or_pos B with h | h
    · rw [h] at hB; simp [nd_zero] at hB
    · exact h
  have hB2 : Hid (dg 65536 B 0 = B) := by show _ = _; rw [dg_zero]; exact Nat.mod_eq_of_lt hB1
  have hcall := fun w1 (h : Sl .i64 w1 a' 1 c' (dg 65536 B)) => h
  have hless := less_any a a' c c' A B w (by omega) (by omega) hsa.rd hsb.rd
  rw [hd.out] at hless
  replace hless := Lib.hid hless
  rw [hB] at hsb hless ⊢
  have HRB : Hid (A % B ≤ 65535) := by have := Nat.mod_lt A hB0; show A % B ≤ 65535; omega
  clear hlt hB hcall
  obtain ⟨R, HR⟩ : ∃ R, Hid (R = A % B) := ⟨_, rfl⟩
  rw [← HR.out] at HRB ⊢
  go_enter Try.func123, Try.ntmps123
  go_wp2_with fail
  refine hless.out.mono ?_
  rintro e w1 ⟨rfl, k, rfl⟩
  obtain ⟨b, off, ha', hc⟩ := hsb.rd.open (by omega)
  have hcell := hc 0 (by omega)
  rw [hB2.out, Nat.add_zero] at hcell
  subst ha'
  go_wp2_with fail
  refine (divided_any _ _ _ B _ (by omega) hB0 hB1 (hsa.keep ((Upd.refl _ _).drewN k)).rd).mono ?_
  rw [← HR.out]
  rintro e w2 ⟨a2, c2, rfl, hs2, hu2⟩
  go_wp2_with fail
  refine (small_any R _ (by have := HRB.out; omega)).mono ?_
  rintro e w3 ⟨a3, c3, rfl, hs3, hu3⟩
  go_wp2_with fail
  go_ret2
  exact ⟨a2, c2, a3, c3, rfl, hs2.keep hu3, hs3, (Upd.of_drewN hu2).trans hu3⟩

theorem Grow.own {k : IntKind} {e : TypeId} {w : World} {base : Nat} {a : Option Addr} {c n : Nat} {f : Nat → Nat} (h : Grow k e w base a c n f) (hn : 0 < n) : ∃ g, a = some ⟨g, 0, none⟩ ∧ Own k w g n f ∧ base ≤ g ∧ g < w.heap.size := by
  rcases h.2 with ⟨h1, h2⟩ | ⟨g, cap, cur, h1, h2, h3, h4⟩
  · omega
  · cases h1
    refine ⟨g, rfl, ⟨fun i hi => ?_, fun i _ => World.ownsRow.frozenAt h i⟩, h2, (Array.getElem?_eq_some_iff.1 h3).1⟩
    have := h.rd.open hn
    obtain ⟨b, off, h5, h6⟩ := this
    cases h5
    have := h6 i hi
    rwa [Nat.zero_add] at this

theorem taken_at (z : Int) (g lu cu : Nat) (av : Option Addr) (cv U V t q : Nat) (w : World) (hz : z = (q : Int)) (hlu : lu ≤ 1000000) (hq : q ≤ 65535) (hfit : t + nd V < lu)
    (hU : U < 65536 ^ (t + (nd V + 1))) (hown : Own .i64 w g lu (dg 65536 U)) (hrv : Rd .i64 w av (nd V) (dg 65536 V)) (hne : ∀ b off, av = some ⟨b, off, none⟩ → b ≠ g) :
    Calls Try.prog 147 #[.slice (some ⟨g, 0, none⟩) lu cu, .slice av (nd V) cv, .int .i64 t, .int .i64 z] w (TakenPost w g lu U (q * V * 65536 ^ t) (65536 ^ (t + (nd V + 1)))) := by
  subst hz
  exact taken_any g lu cu av cv U V t q w hlu hq hfit hU hown hrv hne
theorem Sl.keep' {S : Nat → Prop} {k : IntKind} {w w' : World} {a : Option Addr} {n c : Nat} {f : Nat → Nat} (h : Sl k w a n c f) (hu : Upd S w w') (hS : ∀ b off, a = some ⟨b, off, none⟩ → ¬ S b) : Sl k w' a n c f :=
  ⟨h.le, fun i hi => by
    obtain ⟨b, off, h1, h2⟩ := h.rd i hi
    exact ⟨b, off, h1, hu.cell (p := ⟨b, off + i, none⟩) (hS b off h1) h2⟩, h.nil⟩

set_option maxRecDepth 100000 in
set_option maxHeartbeats 4000000 in
theorem quotient_many (a a' : Option Addr) (c c' A B n : Nat) (w : World) (hA : nd A ≤ 10000) (hB : nd B = n + 2) (hBn : n + 2 ≤ 10000) (hlt : ¬ A < B) (hsa : Sl .i64 w a (nd A) c (dg 65536 A)) (hsb : Sl .i64 w a' (nd B) c' (dg 65536 B)) :
    Calls Try.prog 123 #[.slice a (nd A) c, .slice a' (nd B) c'] w (RetQuot w (A / B) (A % B)) := by
  have hless := less_any a a' c c' A B w (by omega) (by omega) hsa.rd hsb.rd
  rw [decide_eq_false hlt] at hless
  replace hless := Lib.hid hless
  have hAB : B ≤ A := by omega
  have htop := dg_top hB
  have HLB := lt_pow_nd B
  rw [hB] at HLB
  obtain ⟨tb, Htb⟩ : ∃ tb, Hid (tb = dg 65536 B (n + 1)) := ⟨_, rfl⟩
  have htb : tb < 65536 := by rw [Htb.out]; exact dg_lt (by omega) _ _
  have htb0 : 0 < tb := by rw [Htb.out]; omega
  obtain ⟨s, Hs⟩ : ∃ s, Hid (s = 65536 / (tb + 1)) := ⟨_, rfl⟩
  have hs0 : 0 < s := by rw [Hs.out]; exact Nat.div_pos (by omega) (by omega)
  have hs1 : s ≤ 32768 := by
    rw [Hs.out]
    exact Nat.le_trans (Nat.div_le_div_left (show 2 ≤ tb + 1 by omega) (by omega)) (by omega)
  have es : (65536 : Int) / ((tb : Int) + 1) = (s : Int) := by
    rw [Hs.out]; simp
  -- V = B * s has as many digits as B
  have hVlt : B * s < 65536 ^ (n + 2) := by
    have h1 : B < (tb + 1) * 65536 ^ (n + 1) := by
      have h2 := mod_succ 65536 B (n + 1)
      rw [Nat.mod_eq_of_lt HLB, ← Htb.out] at h2
      have h3 := Nat.mod_lt B (show 0 < 65536 ^ (n + 1) from Nat.pow_pos (by omega))
      rw [Nat.add_mul, Nat.one_mul, Nat.mul_comm tb]
      omega
    have h4 : B * s < (tb + 1) * 65536 ^ (n + 1) * s := Nat.mul_lt_mul_of_pos_right h1 hs0
    have h5 : (tb + 1) * s ≤ 65536 := by rw [Hs.out]; exact Nat.mul_div_le _ _
    rw [Nat.mul_right_comm] at h4
    have h6 := Nat.mul_le_mul_right (65536 ^ (n + 1)) h5
    rw [Nat.pow_succ, Nat.mul_comm (65536 ^ (n + 1))]
    omega
  have hVge : B ≤ B * s := Nat.le_mul_of_pos_right _ hs0
  have hndV : nd (B * s) = n + 2 := by
    have h1 := (nd_le_iff (n + 2) (B * s)).2 hVlt
    have h2 := nd_mono hVge
    omega
  have hB0 : 0 < B := by
    rcases Nat.eq_zero_or_pos B with h | h
    · rw [h, nd_zero] at hB; omega
    · exact h
  have HQQ : Hid (A * s / (B * s) = A / B ∧ A * s % (B * s) = A % B * s) := ⟨Nat.mul_div_mul_right _ _ hs0, Nat.mul_mod_mul_right _ _ _⟩
  have hndU : nd (A * s) ≤ nd A + 1 := by
    rw [nd_le_iff, Nat.pow_succ]
    exact Nat.mul_lt_mul'' (lt_pow_nd A) (by omega)
  have hndUV : n + 2 ≤ nd (A * s) := by rw [← hndV]; exact nd_mono (Nat.mul_le_mul_right _ hAB)
  obtain ⟨b1, o1, rfl, hcb⟩ := hsb.rd.open (by omega)
  have hcell1 := hcb (n + 1) (by omega)
  rw [← Htb.out] at hcell1
  have hsmall := fun w => small_any s w (by omega)
  have hndS : nd s ≤ 1 := (nd_le_iff 1 s).2 (by omega)
  replace hndS := hndS
  have hprodV := fun w1 a1 c1 (h1 : Rd .i64 w1 (some ⟨b1, o1, none⟩) (nd B) (dg 65536 B)) (h2 : Rd .i64 w1 a1 (nd s) (dg 65536 s)) => product_own (some ⟨b1, o1, none⟩) a1 c' c1 B s w1 (by omega) (by omega) h1 h2
  have hprodU := fun w1 a1 c1 (h1 : Rd .i64 w1 a (nd A) (dg 65536 A)) (h2 : Rd .i64 w1 a1 (nd s) (dg 65536 s)) => product_own a a1 c c1 A s w1 (by omega) (by omega) h1 h2
  obtain ⟨V, HV⟩ : ∃ V, Hid (V = B * s) := ⟨_, rfl⟩
  obtain ⟨U, HU⟩ : ∃ U, Hid (U = A * s) := ⟨_, rfl⟩
  rw [← HV.out] at hprodV hndV hVlt hVge HQQ
  rw [hB] at hprodV
  rw [← HU.out] at hprodU hndU hndUV HQQ
  replace hprodV := Lib.hid hprodV
  replace hprodU := Lib.hid hprodU
  replace hsmall := Lib.hid hsmall
  have HVlt := Lib.hid hVlt
  have HndV := Lib.hid hndV
  have hv1 : n + 2 ≤ nd V := by omega
  have hv2 : nd V ≤ n + 2 := by omega
  clear hcb htop HLB hAB hlt hVlt hndV
  rw [hB] at hsb hless ⊢
  go_enter Try.func123, Try.ntmps123
  go_wp2_with fail
  refine hless.out.mono ?_
  rintro e w1 ⟨rfl, k, rfl⟩
  go_wp2_with fail
  refine (hsmall.out _).mono ?_
  rintro e w2 ⟨a2, c2, rfl, hs2, hu2⟩
  replace hu2 : Upd0 w w2 := Upd.of_drewN hu2
  go_wp2_with fail
  with_reducible refine (hprodV.out _ _ _ (hsb.keep hu2).rd hs2.rd).mono ?_
  rintro e w3 ⟨a3, c3, rfl, hg3, hu3⟩
  replace hu3 := hu2.trans hu3
  have hsv := hg3.sl
  go_wp2_with fail
  with_reducible refine (hsmall.out _).mono ?_
  rintro e w4 ⟨a4, c4, rfl, hs4, hu4⟩
  have hsv4 := hsv.keep hu4
  replace hu4 := hu3.trans hu4
  go_wp2_with fail
  with_reducible refine (hprodU.out _ _ _ (hsa.keep hu4).rd hs4.rd).mono ?_
  rintro e w5 ⟨a5, c5, rfl, hg5, hu5⟩
  have hsv5 := hsv4.keep hu5
  have hz5 := hu5.size
  replace hu5 := hu4.trans hu5
  obtain ⟨lu, Hlu⟩ : ∃ lu, Hid (lu = nd U) := ⟨_, rfl⟩
  rw [← Hlu.out] at hndU hndUV hg5 ⊢
  obtain ⟨lq, hlq⟩ : ∃ lq, lq = lu + 1 - nd V := ⟨_, rfl⟩
  have hmk := make_num lq (by omega)
  rw [show (lq : Int) = (lu : Int) + 1 - (nd V : Int) from by omega] at hmk
  have hlq1 : lq + nd V = lu + 1 := by omega
  replace hlq1 := Lib.hid hlq1
  have hlq2 : lq + nd V ≤ lu + 1 := by omega
  have hlq3 : lu + 1 ≤ lq + nd V := by omega
  clear hlq
  go_wp2_with (at_builtin; refine wpList_append_ints rfl (.tmp 52) (.tmp 53) 65 rfl w4.heap.size 3 .i64 8 Try.underlying65 info_int a5 c5 lu _ rfl (by exact hg5.keep0 ((Upd.refl _ _).alloc _)) ⟨w5.heap.size, 0, none⟩ 1 1 (fun _ => 0) rfl (by exact Rd.one rfl) (by omega) (by omega) (by simp; omega) ?_; intro a6 c6 w6 hg6 hu6; obtain ⟨g, rfl, hown6, hb6, hl6⟩ := hg6.own (by omega))
  have hv0 := hsv4.rd.open (by omega)
  obtain ⟨bv, ov, rfl, hcv⟩ := hv0
  have hbv : bv < w4.heap.size := World.block_lt_of_cell? _ _ (hcv 0 (by omega))
  have hgv : ∀ b off, some (⟨bv, ov, none⟩ : Addr) = some ⟨b, off, none⟩ → b ≠ g := fun b off h => by cases h; omega
  have hsv6 : Sl .i64 w6 (some ⟨bv, ov, none⟩) (nd V) c3 (dg 65536 V) := (hsv5.keep ((Upd.refl _ _).alloc _)).keep' hu6 (fun b off h hS => by
    cases h
    have := (hg5.block bv hS).1
    omega)
  have hu6' : Upd0 w w6 := (hu5.alloc _).then hu6 (fun i hi h => by
    have h1 := (hg5.block i h).1
    have h2 := hu4.size
    omega)
  clear hcv
  have HLU : Hid (U < 65536 ^ lu) := by rw [Hlu.out]; exact lt_pow_nd U
  have HSTART : Hid (U % (V * 65536 ^ lq) = U) := by
    refine Nat.mod_eq_of_lt (Nat.lt_of_lt_of_le HLU.out ?_)
    have h1 := hlq1.out
    have h2 : 65536 ^ (n + 1) ≤ V := by
      rcases Nat.lt_or_ge V (65536 ^ (n + 1)) with h | h
      · have := (nd_le_iff (n + 1) V).2 h; omega
      · exact h
    rw [show lu = (n + 1) + lq by omega, Nat.pow_add]
    exact Nat.mul_le_mul_right _ h2
  have HV0 : Hid (0 < V) := by
    show 0 < V
    rcases Nat.eq_zero_or_pos V with h | h
    · rw [h, nd_zero] at hv1; omega
    · exact h
  obtain ⟨vt, Hvt⟩ : ∃ vt, Hid (vt = dg 65536 V (n + 1)) := ⟨_, rfl⟩
  have hvt0 : 0 < vt := by
    rw [Hvt.out]
    exact Nat.pos_of_ne_zero (dg_top HndV.out)
  have hvt1 : vt < 65536 := by rw [Hvt.out]; exact dg_lt (by omega) _ _
  go_loopw [12] (fun s wr => ∃ k : Nat, k ≤ lq ∧ s = .int .i64 ((k : Int) - 1) ∧ Own .i64 wr g (lu + 1) (dg 65536 (U % (V * 65536 ^ k))) ∧ Own .i64 wr w6.heap.size lq (fun j => if k ≤ j then dg 65536 (U / V) j else 0) ∧ Upd (fun i => i = g) w6 wr) (fun s _ => (intOf s + 1).toNat)
  case atStart => exact ⟨lq, Nat.le_refl _, rfl, by
    rw [HSTART.out]
    refine (hown6.keep0 ((Upd.refl _ _).alloc _)).congr fun i hi => ?_
    by_cases e : i < lu
    · rw [if_pos e]
    · rw [if_neg e, dg_of_lt' (i := i) (by omega) HLU.out (by omega)], (Own.made .i64 w6 lq _).congr (fun j hj => by rw [if_neg (by omega)]), (Upd.refl _ _).alloc _⟩
  case round =>
    clear hmk hg5 hown6 hsv5 hsv4 hs4 hs2 hg3 hsv
    obtain ⟨k, hk, hi, hown, hownq, hu⟩ := hrel
    by_cases h0 : k = 0
    · subst h0
      subst hi
      have HRV : Hid (U % V < 65536 ^ (lu + 1)) := Nat.lt_of_le_of_lt (Nat.mod_le _ _) (Nat.lt_trans HLU.out (Nat.pow_lt_pow_right (by omega) (by omega)))
      have hru : Rd .i64 wr (some ⟨g, 0, none⟩) (lu + 1) (dg 65536 (U % V)) := by
        have h1 := hown.rd
        rwa [Nat.pow_zero, Nat.mul_one] at h1
      have HQL : Hid (U / V < 65536 ^ lq) := by
        show U / V < 65536 ^ lq
        rw [Nat.div_lt_iff_lt_mul HV0.out, Nat.mul_comm, ← HSTART.out]
        exact Nat.mod_lt _ (Nat.mul_pos HV0.out (Nat.pow_pos (by omega)))
      have hrq : Rd .i64 wr (some ⟨w6.heap.size, 0, none⟩) lq (dg 65536 (U / V)) := hownq.rd.congr fun j hj => by rw [if_pos (Nat.zero_le _)]
      have hle := hu.size
      have hglc := hg6.le
      have hndR : nd (U % V) ≤ 10002 := by
        have h1 := (nd_le_iff (lu + 1) (U % V)).2 HRV.out
        omega
      replace hndR := Lib.hid hndR
      clear hown hownq
      go_wp2_with fail
      with_reducible refine (trimmed_any _ _ _ _ _ (by omega) hglc HRV.out hru).mono ?_
      rintro e w8 ⟨rfl, rfl⟩
      go_wp2_with fail
      with_reducible refine (divided_any _ _ _ s _ (by have := hndR.out; omega) hs0 (by omega) (hru.le ((nd_le_iff _ _).2 HRV.out))).mono ?_
      rintro e w9 ⟨a9, c9, rfl, hs9, hu9⟩
      go_wp2_with fail
      with_reducible refine (trimmed_any _ _ _ _ _ (by omega) (Nat.le_refl _) HQL.out (hrq.keep hu9)).mono ?_
      rintro e w10 ⟨rfl, rfl⟩
      go_wp2_with fail
      go_ret2
      have hE : U % V / s = A % B := by rw [HQQ.out.2, Nat.mul_div_cancel _ hs0]
      rw [hE] at hs9
      exact ⟨_, _, a9, c9, by rw [← HQQ.out.1, ← hE]; rfl, by
        rw [← HQQ.out.1]
        exact ⟨(nd_le_iff _ _).2 HQL.out, (hrq.keep hu9).le ((nd_le_iff _ _).2 HQL.out), fun e => by cases e⟩, hs9, (hu6'.then hu (fun i h1 h2 => by
          have h3 := hu4.size
          omega)).trans hu9⟩
    · obtain ⟨t, rfl⟩ : ∃ t, k = t + 1 := ⟨k - 1, by omega⟩
      replace hi := hi.trans (show Value.int .i64 (((t + 1 : Nat) : Int) - 1) = .int .i64 (t : Int) by congr 1; omega)
      subst hi
      have hgq : ¬ w6.heap.size = g := by omega
      have hsvr := hsv6.keep' hu (fun b off h => hgv b off h)
      obtain ⟨R, HR⟩ : ∃ R, Hid (R = U % (V * 65536 ^ (t + 1))) := ⟨_, rfl⟩
      rw [← HR.out] at hown
      have HVt : Hid (0 < V * 65536 ^ t) := Nat.mul_pos HV0.out (Nat.pow_pos (by omega))
      have HRL : Hid (R < V * 65536 ^ (t + 1)) := by rw [HR.out]; exact Nat.mod_lt _ (Nat.mul_pos HV0.out (Nat.pow_pos (by omega)))
      have HRM : Hid (R < 65536 ^ (t + (nd V + 1))) := by
        refine Nat.lt_of_lt_of_le HRL.out ?_
        rw [show t + (nd V + 1) = nd V + (t + 1) by omega, Nat.pow_add 65536 (nd V) (t + 1)]
        exact Nat.mul_le_mul_right _ (Nat.le_of_lt (lt_pow_nd V))
      have HEST := q_est (b := 65536) (n := n + 1) (t := t) (by omega) HVlt.out (by rw [← Hvt.out]; omega) HRL.out
      have HQL : R / (V * 65536 ^ t) < 65536 := q_lt HRL.out
      have hc1 := hown.cell (t + (n + 2)) (by omega)
      have hc0 := hown.cell (t + (n + 1)) (by omega)
      obtain ⟨r1, Hr1⟩ : ∃ r1, Hid (r1 = dg 65536 R (t + (n + 1 + 1))) := ⟨_, rfl⟩
      obtain ⟨r0, Hr0⟩ : ∃ r0, Hid (r0 = dg 65536 R (t + (n + 1))) := ⟨_, rfl⟩
      have br1 : r1 < 65536 := by rw [Hr1.out]; exact dg_lt (by omega) _ _
      have br0 : r0 < 65536 := by rw [Hr0.out]; exact dg_lt (by omega) _ _
      rw [show dg 65536 R (t + (n + 2)) = r1 from Hr1.out.symm, show n + 2 = nd V by omega] at hc1
      rw [← Hr0.out, show t + (n + 1) = t + nd V - 1 by omega] at hc0
      rw [← Hr1.out, ← Hr0.out, ← Hvt.out] at HEST
      obtain ⟨bv', ov', hav, hcv⟩ := hsvr.rd.open (by omega)
      cases hav
      have hc2 := hcv (nd V - 1) (by omega)
      rw [show dg 65536 V (nd V - 1) = vt by rw [Hvt.out]; congr 1; omega] at hc2
      clear hcv
      replace HEST := Lib.hid HEST
      replace HQL := Lib.hid HQL
      have i1 : (t : Int) + (nd V : Int) < (lu : Int) + 1 := by omega
      have i2 : (0 : Int) ≤ (t : Int) + (nd V : Int) := by omega
      have i3 : ((t : Int) + (nd V : Int)).toNat = t + nd V := by omega
      have i4 : (t : Int) + (nd V : Int) - 1 < (lu : Int) + 1 := by omega
      have i5 : (0 : Int) ≤ (t : Int) + (nd V : Int) - 1 := by omega
      have i5' : 1 ≤ (t : Int) + (nd V : Int) := by omega
      have i6 : ((t : Int) + (nd V : Int) - 1).toNat = t + nd V - 1 := by omega
      have e1 := w64 ((t : Int) + (nd V : Int)) (by omega) (by omega)
      have e2 := w64 ((t : Int) + (nd V : Int) - 1) (by omega) (by omega)
      have e3 := w64 ((r1 : Int) * 65536) (by omega) (by omega)
      have e4 := w64 ((r1 : Int) * 65536 + (r0 : Int)) (by omega) (by omega)
      obtain ⟨x0, Hx0⟩ : ∃ x0, Hid (x0 = (r1 * 65536 + r0) / vt) := ⟨_, rfl⟩
      rw [← Hx0.out] at HEST
      have hx0b : x0 ≤ 4294967295 := by
        rw [Hx0.out]
        exact Nat.le_trans (Nat.div_le_self _ _) (by omega)
      have ex : ((r1 : Int) * 65536 + (r0 : Int)) / (vt : Int) = (x0 : Int) := by
        rw [Hx0.out]; simp
      have hvz : ¬ (vt : Int) = 0 := by omega
      by_cases hbig : 65536 ≤ x0
      · have hbig' : decide (65536 ≤ (x0 : Int)) = true := by simp; omega
        have HKX : R / (V * 65536 ^ t) ≤ 65535 := by have := HQL.out; omega
        go_wp2_with fail
        go_quiet (fail)
        clear e1 e2 e3 e4
        have HK := Lib.hid HKX
        obtain ⟨wo, rfl⟩ : ∃ wo : World, wo = wr := ⟨_, rfl⟩
        go_wp2_with fail
        with_reducible refine (taken_at 65535 _ _ _ _ _ R V t 65535 _ rfl (by omega) (by omega) (by omega) HRM.out (hown.drewN nq) (hsvr.keep ((Upd.refl _ _).drewN nq)).rd (fun b off h => hgv b off h)).mono ?_
        intro e w1 hpost
        obtain ⟨rfl, hown1, hu1⟩ := hpost.out
        replace hu1 : Upd (fun i => i = g) wo w1 := Upd.of_drewN hu1
        go_wp2_with fail
        go_loopw [14, 15] (fun s14 s15 wr => ∃ x : Nat, x ≤ 65535 ∧ s14 = .int .i64 x ∧ s15 = .bool (fitB (x * V * 65536 ^ t) R) ∧ Hid (R / (V * 65536 ^ t) ≤ x) ∧ Own .i64 wr g (lu + 1) (dg 65536 (leftN R (x * V * 65536 ^ t) (65536 ^ (t + (nd V + 1))))) ∧ Upd (fun i => i = g) wo wr) (fun s14 _ _ => (intOf s14).toNat)
        case atStart => exact ⟨65535, by omega, rfl, rfl, HK, hown1, hu1⟩
        case round =>
          clear hown1 hu1
          obtain ⟨x, hx, rfl, rfl, HKx, hown1, hu1⟩ := hrel
          have hownq1 := hownq.keep hu1 hgq
          have HMx : Hid (x * (V * 65536 ^ t) ≤ 65536 ^ (t + (nd V + 1))) := by
            show x * (V * 65536 ^ t) ≤ 65536 ^ (t + (nd V + 1))
            rw [Nat.pow_add, Nat.mul_comm (65536 ^ t), Nat.pow_succ, Nat.mul_comm (65536 ^ nd V), ← Nat.mul_assoc]
            exact Nat.mul_le_mul_right _ (Nat.mul_le_mul (by omega) (Nat.le_of_lt (lt_pow_nd V)))
          by_cases hf : fitB (x * V * 65536 ^ t) R = true
          · have HXQ : Hid (x = R / (V * 65536 ^ t)) := q_fits HVt.out HKx.out (by rw [← Nat.mul_assoc]; exact of_decide_eq_true hf)
            have hcq := hownq1.cell t (by omega)
            have hfq := hownq1.free t (by omega)
            rw [if_neg (by omega)] at hcq
            rw [hf]
            have HF := Lib.hid hf
            clear hf
            go_wp2
            go_roundw
            case rel => exact ⟨t, by omega, rfl, by
              have h1 : leftN R (x * V * 65536 ^ t) (65536 ^ (t + (nd V + 1))) = U % (V * 65536 ^ t) := by
                unfold leftN
                rw [if_pos (of_decide_eq_true HF.out), Nat.mul_assoc, q_rest HXQ.out, HR.out, q_next]
              rw [← h1]
              exact hown1.keep ((Upd.refl (fun i => i = w6.heap.size) _).setCell _ _ (fun _ => rfl)) (fun h => hgq h.symm), by
              refine (hownq1.set (i := t) (by omega) x).congr fun j hj => ?_
              by_cases e : j = t
              · subst e; rw [if_pos rfl, if_pos (Nat.le_refl _), HXQ.out, HR.out, q_digit]
              · rw [if_neg e]
                by_cases e2 : t + 1 ≤ j
                · rw [if_pos e2, if_pos (by omega)]
                · rw [if_neg e2, if_neg (by omega)], (hu.trans hu1).setCell _ _ (fun h => by simp at h)⟩
            case measure => simp [intOf]
          · have hf : fitB (x * V * 65536 ^ t) R = false := by simpa using hf
            have hx0 : 0 < x := by
              rcases Nat.eq_zero_or_pos x with h | h
              · subst h; rw [Nat.zero_mul, Nat.zero_mul] at hf; simp [fitB] at hf
              · exact h
            have HL : Hid (leftN R (x * V * 65536 ^ t) (65536 ^ (t + (nd V + 1))) < 65536 ^ (t + (nd V + 1))) := leftN_lt HRM.out (by rw [Nat.mul_assoc]; exact HMx.out)
            have HF := Lib.hid hf
            rw [hf]
            clear hf
            have HNX : Hid (R / (V * 65536 ^ t) ≤ x - 1) := by
              show R / (V * 65536 ^ t) ≤ x - 1
              have h1 : R < x * (V * 65536 ^ t) := by
                have := of_decide_eq_false HF.out
                rw [Nat.mul_assoc] at this; omega
              have := (Nat.div_lt_iff_lt_mul HVt.out).2 h1
              omega
            go_wp2_with fail
            with_reducible refine (putBack_any _ _ _ _ _ _ V t _ (by omega) (by omega) HL.out hown1 (hsvr.keep' hu1 (fun b off h => hgv b off h)).rd (fun b off h => hgv b off h)).mono ?_
            intro e w2 hpost
            rw [Nat.mul_assoc] at hpost
            obtain ⟨rfl, hown2, hu2⟩ := hpost.out (by rw [← Nat.mul_assoc]; exact HF.out) HMx.out hx0
            rw [← Nat.mul_assoc] at hown2 ⊢
            go_wp2_with fail
            go_roundw
            case rel => exact ⟨x - 1, by omega, by congr 1; omega, rfl, HNX, hown2, hu1.trans hu2⟩
            case measure => simp [intOf]; omega
      · have hbig' : decide (65536 ≤ (x0 : Int)) = false := by simp; omega
        have HKX : R / (V * 65536 ^ t) ≤ x0 := HEST.out
        go_wp2_with fail
        go_quiet (fail)
        clear e1 e2 e3 e4
        have HK := Lib.hid HKX
        obtain ⟨wo, rfl⟩ : ∃ wo : World, wo = wr := ⟨_, rfl⟩
        go_wp2_with fail
        with_reducible refine (taken_at (x0 : Int) _ _ _ _ _ R V t x0 _ rfl (by omega) (by omega) (by omega) HRM.out (hown.drewN nq) (hsvr.keep ((Upd.refl _ _).drewN nq)).rd (fun b off h => hgv b off h)).mono ?_
        intro e w1 hpost
        obtain ⟨rfl, hown1, hu1⟩ := hpost.out
        replace hu1 : Upd (fun i => i = g) wo w1 := Upd.of_drewN hu1
        go_wp2_with fail
        go_loopw [14, 15] (fun s14 s15 wr => ∃ x : Nat, x ≤ 65535 ∧ s14 = .int .i64 x ∧ s15 = .bool (fitB (x * V * 65536 ^ t) R) ∧ Hid (R / (V * 65536 ^ t) ≤ x) ∧ Own .i64 wr g (lu + 1) (dg 65536 (leftN R (x * V * 65536 ^ t) (65536 ^ (t + (nd V + 1))))) ∧ Upd (fun i => i = g) wo wr) (fun s14 _ _ => (intOf s14).toNat)
        case atStart => exact ⟨x0, by omega, rfl, rfl, HK, hown1, hu1⟩
        case round =>
          clear hown1 hu1
          obtain ⟨x, hx, rfl, rfl, HKx, hown1, hu1⟩ := hrel
          have hownq1 := hownq.keep hu1 hgq
          have HMx : Hid (x * (V * 65536 ^ t) ≤ 65536 ^ (t + (nd V + 1))) := by
            show x * (V * 65536 ^ t) ≤ 65536 ^ (t + (nd V + 1))
            rw [Nat.pow_add, Nat.mul_comm (65536 ^ t), Nat.pow_succ, Nat.mul_comm (65536 ^ nd V), ← Nat.mul_assoc]
            exact Nat.mul_le_mul_right _ (Nat.mul_le_mul (by omega) (Nat.le_of_lt (lt_pow_nd V)))
          by_cases hf : fitB (x * V * 65536 ^ t) R = true
          · have HXQ : Hid (x = R / (V * 65536 ^ t)) := q_fits HVt.out HKx.out (by rw [← Nat.mul_assoc]; exact of_decide_eq_true hf)
            have hcq := hownq1.cell t (by omega)
            have hfq := hownq1.free t (by omega)
            rw [if_neg (by omega)] at hcq
            rw [hf]
            have HF := Lib.hid hf
            clear hf
            go_wp2
            go_roundw
            case rel => exact ⟨t, by omega, rfl, by
              have h1 : leftN R (x * V * 65536 ^ t) (65536 ^ (t + (nd V + 1))) = U % (V * 65536 ^ t) := by
                unfold leftN
                rw [if_pos (of_decide_eq_true HF.out), Nat.mul_assoc, q_rest HXQ.out, HR.out, q_next]
              rw [← h1]
              exact hown1.keep ((Upd.refl (fun i => i = w6.heap.size) _).setCell _ _ (fun _ => rfl)) (fun h => hgq h.symm), by
              refine (hownq1.set (i := t) (by omega) x).congr fun j hj => ?_
              by_cases e : j = t
              · subst e; rw [if_pos rfl, if_pos (Nat.le_refl _), HXQ.out, HR.out, q_digit]
              · rw [if_neg e]
                by_cases e2 : t + 1 ≤ j
                · rw [if_pos e2, if_pos (by omega)]
                · rw [if_neg e2, if_neg (by omega)], (hu.trans hu1).setCell _ _ (fun h => by simp at h)⟩
            case measure => simp [intOf]
          · have hf : fitB (x * V * 65536 ^ t) R = false := by simpa using hf
            have hx0 : 0 < x := by
              rcases Nat.eq_zero_or_pos x with h | h
              · subst h; rw [Nat.zero_mul, Nat.zero_mul] at hf; simp [fitB] at hf
              · exact h
            have HL : Hid (leftN R (x * V * 65536 ^ t) (65536 ^ (t + (nd V + 1))) < 65536 ^ (t + (nd V + 1))) := leftN_lt HRM.out (by rw [Nat.mul_assoc]; exact HMx.out)
            have HF := Lib.hid hf
            rw [hf]
            clear hf
            have HNX : Hid (R / (V * 65536 ^ t) ≤ x - 1) := by
              show R / (V * 65536 ^ t) ≤ x - 1
              have h1 : R < x * (V * 65536 ^ t) := by
                have := of_decide_eq_false HF.out
                rw [Nat.mul_assoc] at this; omega
              have := (Nat.div_lt_iff_lt_mul HVt.out).2 h1
              omega
            go_wp2_with fail
            with_reducible refine (putBack_any _ _ _ _ _ _ V t _ (by omega) (by omega) HL.out hown1 (hsvr.keep' hu1 (fun b off h => hgv b off h)).rd (fun b off h => hgv b off h)).mono ?_
            intro e w2 hpost
            rw [Nat.mul_assoc] at hpost
            obtain ⟨rfl, hown2, hu2⟩ := hpost.out (by rw [← Nat.mul_assoc]; exact HF.out) HMx.out hx0
            rw [← Nat.mul_assoc] at hown2 ⊢
            go_wp2_with fail
            go_roundw
            case rel => exact ⟨x - 1, by omega, by congr 1; omega, rfl, HNX, hown2, hu1.trans hu2⟩
            case measure => simp [intOf]; omega

theorem quotient_any (a a' : Option Addr) (c c' A B : Nat) (w : World) (hA : nd A ≤ 10000) (hB : nd B ≤ 10000) (hB0 : 0 < B) (hsa : Sl .i64 w a (nd A) c (dg 65536 A)) (hsb : Sl .i64 w a' (nd B) c' (dg 65536 B)) :
    Calls Try.prog 123 #[.slice a (nd A) c, .slice a' (nd B) c'] w (RetQuot w (A / B) (A % B)) := by
  by_cases h : A < B
  · exact quotient_less a a' c c' A B w hA hB h hsa hsb
  · have hp := nd_pos (N := B) (by omega)
    by_cases h1 : nd B = 1
    · exact quotient_one a a' c c' A B w hA h1 h hsa hsb
    · obtain ⟨n, hn⟩ : ∃ n, nd B = n + 2 := ⟨nd B - 2, by omega⟩
      exact quotient_many a a' c c' A B n w hA hn (by omega) h hsa hsb
end Go.Proofs.Ytpojonfopoobpaa
