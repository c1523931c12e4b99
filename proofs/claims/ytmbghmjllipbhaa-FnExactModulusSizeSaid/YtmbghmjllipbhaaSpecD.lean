/-
  Contracts of the reference's small and product.
-/
import Derived.Test.YtmbghmjllipbhaaSpecC
import Derived.Test.YtmbghmjllipbhaaImplA
namespace Go.Proofs.Ytmbghmjllipbhaa
open Go.RowKit

set_option maxRecDepth 100000 in
set_option maxHeartbeats 400000 in
theorem small_any (N : Nat) (w : World) (hN : N ≤ 9223372036854775807) :
    Calls Try.prog 109 #[.int .i64 N] w (RetNum w N) := by
  have hnd : nd N ≤ 4 := (nd_le_iff 4 N).2 (by omega)
  go_enter Try.func109, Try.ntmps109
  go_wp2
  go_loopw [0, 3] (fun x v wr => ∃ (M k : Nat) (a' : Option Addr) (c' : Nat), x = .int .i64 M ∧ v = .slice a' k c' ∧ M ≤ N ∧ Hid (M = N / 65536 ^ k) ∧ Hid (k + nd M = nd N) ∧ Grow .i64 3 wr w.heap.size a' c' k (dg 65536 N) ∧ Upd0 w wr) (fun x _ _ => (intOf x).toNat)
  case atStart => exact ⟨N, 0, _, _, rfl, rfl, Nat.le_refl _, by show _ = _; simp, by show _ = _; omega, Grow.made .i64 _ w w.heap.size #[] 0 _ (Nat.le_refl _) (by simp [maxLen]) rfl, (Upd.refl _ _).alloc _⟩
  case round =>
    obtain ⟨M, k, a', c', rfl, rfl, hM, HM, HK, hg, hu⟩ := hrel
    by_cases h0 : M = 0
    · subst h0
      have HKE : Hid (k = nd N) := by have := HK.out; rw [nd_zero] at this; show k = nd N; omega
      have hs := hg.sl
      rw [HKE.out] at hs
      go_wp2
      go_ret
      exact ⟨a', c', by rw [HKE.out]; rfl, hs, hu⟩
    · have hM0 : 0 < M := by omega
      have hk : k ≤ 4 := by have := HK.out; omega
      have hz := hu.size
      have HNX : Hid (M / 65536 = N / 65536 ^ (k + 1)) := by show _ = _; rw [HM.out, Nat.pow_succ, Nat.div_div_eq_div_mul]
      have HNK : Hid (k + 1 + nd (M / 65536) = nd N) := by
        have h1 := HK.out
        have h2 := nd_pos h0
        have h3 := blen_div_pow' M 16
        show _ = _
        rw [← h1]
        unfold nd at h2 ⊢
        rw [show (65536 : Nat) = 2 ^ 16 from rfl, h3]
        omega
      go_wp2_with (at_builtin; refine wpList_append_ints rfl (.tmp 9) (.tmp 12) 50 rfl w.heap.size 3 .i64 8 Try.underlying50 info_int a' c' k _ rfl (by exact hg.keep0 ((Upd.refl _ _).alloc _)) ⟨wr.heap.size, 0, none⟩ 1 1 (fun _ => M % 65536) rfl (by exact Rd.one (by simp)) (by omega) (by omega) (by simp; omega) ?_; intro a2 c2 w2 hg2 hu2)
      go_roundw
      case rel => exact ⟨M / 65536, k + 1, a2, c2, by go_num, rfl, by omega, HNX, HNK, hg2.congr fun t ht => by
        by_cases e : t < k
        · rw [if_pos e]
        · obtain rfl : t = k := by omega
          rw [if_neg e, HM.out]; rfl, hu.then (T := fun b => w.heap.size ≤ b) (((Upd.refl _ _).alloc _).then hu2 (fun i _ hi => (hg.block i hi).1)) (fun i h1 h2 => by omega)⟩
      case measure => simp [intOf]; omega

/-- Block b is a row of n cells of type e, none of them frozen. -/
def Blk (w : World) (b e n : Nat) : Prop := ∃ cur, w.heap[b]? = some (.cells cur e (0, 0)) ∧ cur.size = n
theorem Blk.made (w : World) (c e : Nat) (z : Array Value) (hz : z.size = c) : Blk (w.alloc (.cells z e)) w.heap.size e c := ⟨_, heap_alloc_new w _, hz⟩
theorem Blk.setCell {w : World} {b e n : Nat} (h : Blk w b e n) (i : Nat) (v : Value) : Blk (w.setCell ⟨b, i, none⟩ v) b e n := by
  obtain ⟨cur, h1, h2⟩ := h
  refine ⟨cur.setIfInBounds i v, ?_, by simpa using h2⟩
  simp only [World.setCell, Array.getElem?_modify, if_true, h1]
  rfl
theorem Blk.drewN {w : World} {b e n : Nat} (h : Blk w b e n) (k : Nat) : Blk (w.drewN k) b e n := h
theorem Blk.grow {k : IntKind} {w : World} {b e n c : Nat} {f : Nat → Nat} (h : Blk w b e c) (ho : Own k w b n f) (hn : n ≤ c) (hc : c ≤ 1048576) {base : Nat} (hb : base ≤ b) : Grow k e w base (some ⟨b, 0, none⟩) c n f := by
  obtain ⟨cur, h1, h2⟩ := h
  refine ⟨by simp, .inr ⟨b, c, cur, rfl, hb, h1, hn, by simp only [maxLen]; omega, by rw [h2, Nat.mul_one], ?_⟩⟩
  apply List.ext_getElem?
  intro i
  rw [Nat.mul_one, List.getElem?_take]
  by_cases hi : i < n
  · rw [if_pos hi]
    have h3 := ho.cell i hi
    simp only [World.cell?, h1] at h3
    simp only [Option.isSome_none, Bool.false_eq_true, if_false] at h3
    rw [Array.getElem?_toList, h3]
    simp [hi]
  · rw [if_neg hi]; simp [hi]
/-- A new number of the reference is returned; it may grow. -/
def RetGrow (w : World) (N : Nat) (e : Ending) (w' : World) : Prop :=
  ∃ a c, e = .returned (.slice a (nd N) c) ∧ Grow .i64 3 w' w.heap.size a c (nd N) (dg 65536 N) ∧ Upd0 w w'
theorem RetGrow.num {w : World} {N : Nat} {e : Ending} {w' : World} (h : RetGrow w N e w') : RetNum w N e w' := by
  obtain ⟨a, c, h1, h2, h3⟩ := h
  exact ⟨a, c, h1, h2.sl, h3⟩
set_option maxRecDepth 100000 in
set_option maxHeartbeats 1000000 in
theorem product_own (a a' : Option Addr) (c c' A B : Nat) (w : World) (hA : nd A ≤ 100000) (hB : nd B ≤ 100000) (hra : Rd .i64 w a (nd A) (dg 65536 A)) (hrb : Rd .i64 w a' (nd B) (dg 65536 B)) :
    Calls Try.prog 94 #[.slice a (nd A) c, .slice a' (nd B) c'] w (RetGrow w (A * B)) := by
  have HLA : Hid (A < 65536 ^ nd A) := lt_pow_nd A
  have HLB : Hid (B < 65536 ^ nd B) := lt_pow_nd B
  generalize nd A = la at *
  generalize nd B = lb at *
  have HLP : Hid (A * B < 65536 ^ (la + lb)) := by
    show A * B < 65536 ^ (la + lb)
    rw [Nat.pow_add]
    exact Nat.mul_lt_mul'' HLA.out HLB.out
  have hmk := make_num (la + lb) (by omega)
  rw [Int.natCast_add] at hmk
  go_enter Try.func94, Try.ntmps94
  go_wp2
  go_loopw [6] (fun s wr => ∃ i : Nat, i ≤ la ∧ s = .int .i64 i ∧ Own .i64 wr w.heap.size (la + lb) (dg 65536 (A % 65536 ^ i * B)) ∧ Blk wr w.heap.size 3 (la + lb) ∧ Upd0 w wr) (fun s _ => la - (intOf s).toNat)
  case atStart => exact ⟨0, Nat.zero_le _, rfl, (Own.made .i64 w (la + lb) _).congr (fun j hj => by rw [Nat.pow_zero, Nat.mod_one, Nat.zero_mul, dg_of_lt (Nat.pow_pos (by omega))]), Blk.made w _ _ _ (size_madeCells _ _), (Upd.refl _ _).alloc _⟩
  case round =>
    obtain ⟨i, hi, rfl, hown, hblk, hu⟩ := hrel
    clear hmk
    by_cases hlt : i < la
    · obtain ⟨wo, rfl⟩ : ∃ wo : World, wo = wr := ⟨_, rfl⟩
      obtain ⟨x, HX⟩ : ∃ x, Hid (x = dg 65536 A i) := ⟨_, rfl⟩
      have hx : x < 65536 := by rw [HX.out]; exact dg_lt (by omega) _ _
      obtain ⟨E0, HE0⟩ : ∃ E0, Hid (E0 = A % 65536 ^ i * B) := ⟨_, rfl⟩
      rw [← HE0.out] at hown
      have HE0L : Hid (E0 < 65536 ^ (i + lb)) := by
        show E0 < 65536 ^ (i + lb)
        rw [HE0.out, Nat.pow_add]
        exact Nat.mul_lt_mul'' (Nat.mod_lt _ (Nat.pow_pos (by omega))) HLB.out
      go_wp2_with fail
      go_loopw [7, 8] (fun q s wr => ∃ c k : Nat, k ≤ lb ∧ s = .int .i64 k ∧ q = .int .i64 c ∧ c < 65536 ∧ Hid ((E0 + x * (B % 65536 ^ k) * 65536 ^ i) / 65536 ^ (i + k) = E0 / 65536 ^ (i + k) + c) ∧ Own .i64 wr w.heap.size (la + lb) (fun j => if j < i + k then dg 65536 (E0 + x * (B % 65536 ^ k) * 65536 ^ i) j else dg 65536 E0 j) ∧ Blk wr w.heap.size 3 (la + lb) ∧ Upd0 w wr) (fun _ s _ => lb - (intOf s).toNat)
      case atStart => exact ⟨0, 0, Nat.zero_le _, rfl, rfl, by omega, by show _ = _; simp [Nat.mod_one], hown.congr fun j hj => by simp [Nat.mod_one], hblk, hu⟩
      case round =>
        clear hown hu hblk
        obtain ⟨c, k, hk, rfl, rfl, hc, HC, hown, hblk, hu⟩ := hrel
        by_cases hltk : k < lb
        · obtain ⟨b1, o1, x', rfl, hcell1, hx', HX'⟩ := num_cell (hra.keep hu) hlt
          obtain ⟨b2, o2, y, rfl, hcell2, hy, HY⟩ := num_cell (hrb.keep hu) hltk
          obtain rfl : x' = x := by rw [HX'.out, HX.out]
          have hcell3 := hown.cell (i + k) (by omega)
          have hfree3 := hown.free (i + k) (by omega)
          rw [if_neg (Nat.lt_irrefl _)] at hcell3
          obtain ⟨o, HO⟩ : ∃ o, Hid (o = dg 65536 E0 (i + k)) := ⟨_, rfl⟩
          have ho : o < 65536 := by rw [HO.out]; exact dg_lt (by omega) _ _
          rw [← HO.out] at hcell3
          obtain ⟨t, HT⟩ : ∃ t, Hid (t = x' * y) := ⟨_, rfl⟩
          have ht : t ≤ 4294836225 := by
            rw [HT.out]
            exact Nat.mul_le_mul (show x' ≤ 65535 by omega) (show y ≤ 65535 by omega)
          have ep : IntKind.i64.wrap ((x' : Int) * (y : Int)) = (t : Int) := by
            rw [show (x' : Int) * (y : Int) = ((x' * y : Nat) : Int) from by simp, ← HT.out]
            exact w64 _ (by omega) (by omega)
          have HST := mul_step (b := 65536) (by omega) (t := t) HC.out
          have HEE : E0 + x' * (B % 65536 ^ k) * 65536 ^ i + t * 65536 ^ (i + k) = E0 + x' * (B % 65536 ^ (k + 1)) * 65536 ^ i := by
            rw [mod_succ, ← HY.out, HT.out, Nat.pow_add, Nat.mul_add, Nat.add_mul, Nat.add_assoc]
            congr 1
            congr 1
            rw [Nat.mul_assoc, Nat.mul_assoc, Nat.mul_assoc]
            congr 1
            rw [Nat.mul_comm (65536 ^ i), ← Nat.mul_assoc, ← Nat.mul_assoc, Nat.mul_comm y]
          rw [HEE, ← HO.out] at HST
          have HST := Lib.hid HST
          clear HEE
          have i1 : (i : Int) < (la : Int) := by omega
          have i2 : (0 : Int) ≤ (i : Int) := by omega
          have i3 : ((i : Int)).toNat = i := by omega
          have i4 : (k : Int) < (lb : Int) := by omega
          have i5 : (0 : Int) ≤ (k : Int) := by omega
          have i6 : ((k : Int)).toNat = k := by omega
          have i7 : (i : Int) + (k : Int) < (la : Int) + (lb : Int) := by omega
          have i8 : (0 : Int) ≤ (i : Int) + (k : Int) := by omega
          have i9 : ((i : Int) + (k : Int)).toNat = i + k := by omega
          have e1 := w64 ((i : Int) + (k : Int)) (by omega) (by omega)
          have e2 := w64 ((c : Int) + (o : Int)) (by omega) (by omega)
          have e3 := w64 ((c : Int) + (o : Int) + (t : Int)) (by omega) (by omega)
          go_wp2_with fail
          go_quiet (fail)
          clear e1 e2 e3 ep
          go_wp2
          go_roundw
          case rel => exact ⟨(c + o + t) / 65536, k + 1, by omega, by go_num, by go_num, by omega, HST.out.2.2, by
            have h := (hown.drewN nq).set (i := i + k) (by omega) ((c + o + t) % 65536)
            rw [show (((c + o + t) % 65536 : Nat) : Int) = ((c : Int) + (o : Int) + (t : Int)) % 65536 from by omega] at h
            refine h.congr fun j hj => ?_
            by_cases e : j = i + k
            · subst e; rw [if_pos rfl, if_pos (by omega), HST.out.2.1]
            · rw [if_neg e]
              by_cases e2 : j < i + k
              · rw [if_pos e2, if_pos (by omega), HST.out.1 j e2]
              · rw [if_neg e2, if_neg (by omega)], (hblk.drewN nq).setCell _ _, (hu.drewN nq).setCell _ _ (fun h => by simp at h)⟩
          case measure => simp [intOf]; omega
        · obtain rfl : k = lb := by omega
          have hcell3 := hown.cell (i + k) (by omega)
          have hfree3 := hown.free (i + k) (by omega)
          obtain ⟨o, HO⟩ : ∃ o, Hid (o = (if i + k < i + k then dg 65536 (E0 + x * (B % 65536 ^ k) * 65536 ^ i) (i + k) else dg 65536 E0 (i + k))) := ⟨_, rfl⟩
          rw [← HO.out] at hcell3
          have HE1 : Hid (E0 + x * (B % 65536 ^ k) * 65536 ^ i = A % 65536 ^ (i + 1) * B) := by
            show _ = _
            rw [Nat.mod_eq_of_lt HLB.out, mod_succ, ← HX.out, HE0.out, Nat.add_mul]
            congr 1
            rw [Nat.mul_comm (65536 ^ i), Nat.mul_right_comm]
          have HCE : Hid (dg 65536 (A % 65536 ^ (i + 1) * B) (i + k) = c) := by
            have h1 := HC.out
            rw [HE1.out, Nat.div_eq_of_lt HE0L.out, Nat.zero_add] at h1
            show _ = _
            unfold dg
            rw [h1]
            exact Nat.mod_eq_of_lt hc
          have HLL : Hid (A % 65536 ^ (i + 1) * B < 65536 ^ (i + 1 + k)) := by
            show A % 65536 ^ (i + 1) * B < 65536 ^ (i + 1 + k)
            rw [Nat.pow_add 65536 (i + 1) k]
            exact Nat.mul_lt_mul'' (Nat.mod_lt _ (Nat.pow_pos (by omega))) HLB.out
          go_wp2
          go_roundw
          case rel => exact ⟨i + 1, by omega, by go_num, by
            have h := hown.set (i := i + k) (by omega) c
            refine h.congr fun j hj => ?_
            by_cases e : j = i + k
            · subst e; rw [if_pos rfl, HCE.out]
            · rw [if_neg e]
              by_cases e2 : j < i + k
              · rw [if_pos e2, HE1.out]
              · rw [if_neg e2, dg_of_lt' (i := j) (by omega) HE0L.out (by omega), dg_of_lt' (i := j) (by omega) HLL.out (by omega)], hblk.setCell _ _, hu.setCell _ _ (fun h => by simp at h)⟩
          case measure => simp [intOf]; omega
    · obtain rfl : i = la := by omega
      have hgr := hblk.grow ((hown.le ((nd_le_iff _ _).2 HLP.out)).congr (fun j hj => by rw [Nat.mod_eq_of_lt HLA.out])) ((nd_le_iff _ _).2 HLP.out) (by omega) (Nat.le_refl _)
      have HR : Rd .i64 wr (some ⟨w.heap.size, 0, none⟩) (i + lb) (dg 65536 (A * B)) := hown.rd.congr (fun j hj => by rw [Nat.mod_eq_of_lt HLA.out])
      clear hown
      go_wp2_with fail
      refine (trimmed_any _ _ _ _ _ (by omega) (Nat.le_refl _) HLP.out HR).mono ?_
      rintro e w' ⟨rfl, rfl⟩
      go_wp2_with fail
      go_ret
      exact ⟨_, _, rfl, hgr, hu⟩

theorem product_any (a a' : Option Addr) (c c' A B : Nat) (w : World) (hA : nd A ≤ 100000) (hB : nd B ≤ 100000) (hra : Rd .i64 w a (nd A) (dg 65536 A)) (hrb : Rd .i64 w a' (nd B) (dg 65536 B)) :
    Calls Try.prog 94 #[.slice a (nd A) c, .slice a' (nd B) c'] w (RetNum w (A * B)) :=
  (product_own a a' c c' A B w hA hB hra hrb).mono fun _ _ h => h.num
end Go.Proofs.Ytmbghmjllipbhaa
