/-
  Contract of the reference's quotient.
-/
import Derived.Test.YtmbghmjllipbhaaSpecE
namespace Go.Proofs.Ytmbghmjllipbhaa
open Go.RowKit

def fitB (D U : Nat) : Bool := decide (D ≤ U)
def leftN (U D M : Nat) : Nat := if D ≤ U then U - D else U + M - D
theorem TakenPost.out {w : World} {g lu U D M : Nat} {e : Ending} {w' : World} (h : TakenPost w g lu U D M e w') : e = .returned (.bool (fitB D U)) ∧ Own .i64 w' g lu (dg 65536 (leftN U D M)) ∧ Upd (fun k => k = g) w w' := by
  by_cases hD : D ≤ U
  · obtain ⟨h1, h2⟩ := h.1 hD
    exact ⟨by rw [h1, fitB, decide_eq_true hD], by rw [leftN, if_pos hD]; exact h2, h.2.2⟩
  · obtain ⟨h1, h2⟩ := h.2.1 hD
    exact ⟨by rw [h1, fitB, decide_eq_false hD], by rw [leftN, if_neg hD]; exact h2, h.2.2⟩
/-- Putting back once where too much had been taken. -/
theorem PutPost.out {w : World} {g lu R D x M : Nat} {e : Ending} {w' : World} (h : PutPost w g lu (leftN R (x * D) M) D M e w') (hx : fitB (x * D) R = false) (hM : x * D ≤ M) (hx0 : 0 < x) :
    e = .returned (.bool (fitB ((x - 1) * D) R)) ∧ Own .i64 w' g lu (dg 65536 (leftN R ((x - 1) * D) M)) ∧ Upd (fun k => k = g) w w' := by
  have h1 : ¬ x * D ≤ R := of_decide_eq_false hx
  have h2 : (x - 1) * D + D = x * D := by
    obtain ⟨y, rfl⟩ : ∃ y, x = y + 1 := ⟨x - 1, by omega⟩
    rw [Nat.add_sub_cancel, Nat.add_mul, Nat.one_mul]
  rw [leftN, if_neg h1] at h
  by_cases hD : (x - 1) * D ≤ R
  · obtain ⟨h3, h4⟩ := h.1 (by omega)
    refine ⟨by rw [h3, fitB, decide_eq_true hD], ?_, h.2.2⟩
    rw [leftN, if_pos hD, show R - (x - 1) * D = R + M - x * D + D - M by omega]; exact h4
  · obtain ⟨h3, h4⟩ := h.2.1 (by omega)
    refine ⟨by rw [h3, fitB, decide_eq_false hD], ?_, h.2.2⟩
    rw [leftN, if_neg hD, show R + M - (x - 1) * D = R + M - x * D + D by omega]; exact h4
theorem leftN_lt {R D M : Nat} (h : R < M) (_hD : D ≤ M) : leftN R D M < M := by unfold leftN; split <;> omega

/-- The pair of quotient and rest is returned. -/
def RetQuot (w : World) (Q R : Nat) (e : Ending) (w' : World) : Prop :=
  ∃ a c a' c', e = .returned (.tuple #[.slice a (nd Q) c, .slice a' (nd R) c']) ∧ Sl .i64 w' a (nd Q) c (dg 65536 Q) ∧ Sl .i64 w' a' (nd R) c' (dg 65536 R) ∧ Upd0 w w'

set_option maxRecDepth 100000 in
set_option maxHeartbeats 1000000 in
theorem quotient_less (a a' : Option Addr) (c c' A B : Nat) (w : World) (hA : nd A ≤ 10000) (hB : nd B ≤ 10000) (hlt : A < B) (hsa : Sl .i64 w a (nd A) c (dg 65536 A)) (hsb : Sl .i64 w a' (nd B) c' (dg 65536 B)) :
    Calls Try.prog 114 #[.slice a (nd A) c, .slice a' (nd B) c'] w (RetQuot w (A / B) (A % B)) := by
  have hd : decide (A < B) = true := decide_eq_true hlt
  replace hd := Lib.hid hd
  have HE : Hid (A / B = 0 ∧ A % B = A) := ⟨Nat.div_eq_of_lt hlt, Nat.mod_eq_of_lt hlt⟩
  clear hlt
  go_enter Try.func114, Try.ntmps114
  go_wp2_with fail
  refine (less_any _ _ _ _ _ _ _ (by omega) (by omega) hsa.rd hsb.rd).mono ?_
  rw [hd.out]
  rintro e w1 ⟨rfl, k, rfl⟩
  go_wp2
  go_ret2
  exact ⟨some ⟨w.heap.size, 0, none⟩, 0, a, c, by rw [HE.out.1, HE.out.2]; rfl, ⟨by rw [HE.out.1]; exact Nat.le_refl _, by rw [HE.out.1]; exact .nil _ _ _, fun e => by cases e⟩, by
    rw [HE.out.2]; exact hsa.keep (((Upd.refl _ _).drewN k).alloc _), ((Upd.refl _ _).drewN k).alloc _⟩

set_option maxRecDepth 100000 in
set_option maxHeartbeats 1000000 in
theorem quotient_one (a a' : Option Addr) (c c' A B : Nat) (w : World) (hA : nd A ≤ 10000) (hB : nd B = 1) (hlt : ¬ A < B) (hsa : Sl .i64 w a (nd A) c (dg 65536 A)) (hsb : Sl .i64 w a' (nd B) c' (dg 65536 B)) :
    Calls Try.prog 114 #[.slice a (nd A) c, .slice a' (nd B) c'] w (RetQuot w (A / B) (A % B)) := by
  have hd : decide (A < B) = false := decide_eq_false hlt
  replace hd := Lib.hid hd
  have hB1 : B < 65536 := by have := lt_pow_nd B; rw [hB] at this; simpa using this
  have hB0 : 0 < B := by
    rcases Nat.eq_zero_or_pos B with h | h
    · rw [h] at hB; simp [nd_zero] at hB
    · exact h
  have hB2 : Hid (dg 65536 B 0 = B) := by show _ = _; rw [dg_zero]; exact Nat.mod_eq_of_lt hB1
  have hcall := fun w1 (h : Sl .i64 w1 a' 1 c' (dg 65536 B)) => h
  have hless := less_any a a' c c' A B w (by omega) (by omega) hsa.rd hsb.rd
  rw [hd.out] at hless
  replace hless := Lib.hid hless
  rw [hB] at hsb hless ⊢
  have HRB : Hid (A % B ≤ 65535) := by have := Nat.mod_lt A hB0; show A % B ≤ 65535; omega
  clear hlt hB hcall
  obtain ⟨R, HR⟩ : ∃ R, Hid (R = A % B) := ⟨_, rfl⟩
  rw [← HR.out] at HRB ⊢
  go_enter Try.func114, Try.ntmps114
  go_wp2_with fail
  refine hless.out.mono ?_
  rintro e w1 ⟨rfl, k, rfl⟩
  obtain ⟨b, off, ha', hc⟩ := hsb.rd.open (by omega)
  have hcell := hc 0 (by omega)
  rw [hB2.out, Nat.add_zero] at hcell
  subst ha'
  go_wp2_with fail
  refine (divided_any _ _ _ B _ (by omega) hB0 hB1 (hsa.keep ((Upd.refl _ _).drewN k)).rd).mono ?_
  rw [← HR.out]
  rintro e w2 ⟨a2, c2, rfl, hs2, hu2⟩
  go_wp2_with fail
  refine (small_any R _ (by have := HRB.out; omega)).mono ?_
  rintro e w3 ⟨a3, c3, rfl, hs3, hu3⟩
  go_wp2_with fail
  go_ret2
  exact ⟨a2, c2, a3, c3, rfl, hs2.keep hu3, hs3, (Upd.of_drewN hu2).trans hu3⟩

theorem Grow.own {k : IntKind} {e : TypeId} {w : World} {base : Nat} {a : Option Addr} {c n : Nat} {f : Nat → Nat} (h : Grow k e w base a c n f) (hn : 0 < n) : ∃ g, a = some ⟨g, 0, none⟩ ∧ Own k w g n f ∧ base ≤ g ∧ g < w.heap.size := by
  rcases h.2 with ⟨h1, h2⟩ | ⟨g, cap, cur, h1, h2, h3, h4⟩
  · omega
  · cases h1
    refine ⟨g, rfl, ⟨fun i hi => ?_, fun i _ => World.ownsRow.frozenAt h i⟩, h2, (Array.getElem?_eq_some_iff.1 h3).1⟩
    have := h.rd.open hn
    obtain ⟨b, off, h5, h6⟩ := this
    cases h5
    have := h6 i hi
    rwa [Nat.zero_add] at this

theorem taken_at (z : Int) (g lu cu : Nat) (av : Option Addr) (cv U V t q : Nat) (w : World) (hz : z = (q : Int)) (hlu : lu ≤ 1000000) (hq : q ≤ 65535) (hfit : t + nd V < lu)
    (hU : U < 65536 ^ (t + (nd V + 1))) (hown : Own .i64 w g lu (dg 65536 U)) (hrv : Rd .i64 w av (nd V) (dg 65536 V)) (hne : ∀ b off, av = some ⟨b, off, none⟩ → b ≠ g) :
    Calls Try.prog 151 #[.slice (some ⟨g, 0, none⟩) lu cu, .slice av (nd V) cv, .int .i64 t, .int .i64 z] w (TakenPost w g lu U (q * V * 65536 ^ t) (65536 ^ (t + (nd V + 1)))) := by
  subst hz
  exact taken_any g lu cu av cv U V t q w hlu hq hfit hU hown hrv hne
theorem Sl.keep' {S : Nat → Prop} {k : IntKind} {w w' : World} {a : Option Addr} {n c : Nat} {f : Nat → Nat} (h : Sl k w a n c f) (hu : Upd S w w') (hS : ∀ b off, a = some ⟨b, off, none⟩ → ¬ S b) : Sl k w' a n c f :=
  ⟨h.le, fun i hi => by
    obtain ⟨b, off, h1, h2⟩ := h.rd i hi
    exact ⟨b, off, h1, hu.cell (p := ⟨b, off + i, none⟩) (hS b off h1) h2⟩, h.nil⟩

set_option maxRecDepth 100000 in
set_option maxHeartbeats 4000000 in
theorem quotient_many (a a' : Option Addr) (c c' A B n : Nat) (w : World) (hA : nd A ≤ 10000) (hB : nd B = n + 2) (hBn : n + 2 ≤ 10000) (hlt : ¬ A < B) (hsa : Sl .i64 w a (nd A) c (dg 65536 A)) (hsb : Sl .i64 w a' (nd B) c' (dg 65536 B)) :
    Calls Try.prog 114 #[.slice a (nd A) c, .slice a' (nd B) c'] w (RetQuot w (A / B) (A % B)) := by
  have hless := less_any a a' c c' A B w (by omega) (by omega) hsa.rd hsb.rd
  rw [decide_eq_false hlt] at hless
  replace hless := Lib.hid hless
  have hAB : B ≤ A := by omega
  have htop := dg_top hB
  have HLB := lt_pow_nd B
  rw [hB] at HLB
  obtain ⟨tb, Htb⟩ : ∃ tb, Hid (tb = dg 65536 B (n + 1)) := ⟨_, rfl⟩
  have htb : tb < 65536 := by rw [Htb.out]; exact dg_lt (by omega) _ _
  have htb0 : 0 < tb := by rw [Htb.out]; omega
  obtain ⟨s, Hs⟩ : ∃ s, Hid (s = 65536 / (tb + 1)) := ⟨_, rfl⟩
  have hs0 : 0 < s := by rw [Hs.out]; exact Nat.div_pos (by omega) (by omega)
  have hs1 : s ≤ 32768 := by
    rw [Hs.out]
    exact Nat.le_trans (Nat.div_le_div_left (show 2 ≤ tb + 1 by omega) (by omega)) (by omega)
  have es : (65536 : Int) / ((tb : Int) + 1) = (s : Int) := by
    rw [Hs.out]; simp
  -- V = B * s has as many digits as B
  have hVlt : B * s < 65536 ^ (n + 2) := by
    have h1 : B < (tb + 1) * 65536 ^ (n + 1) := by
      have h2 := mod_succ 65536 B (n + 1)
      rw [Nat.mod_eq_of_lt HLB, ← Htb.out] at h2
      have h3 := Nat.mod_lt B (show 0 < 65536 ^ (n + 1) from Nat.pow_pos (by omega))
      rw [Nat.add_mul, Nat.one_mul, Nat.mul_comm tb]
      omega
    have h4 : B * s < (tb + 1) * 65536 ^ (n + 1) * s := Nat.mul_lt_mul_of_pos_right h1 hs0
    have h5 : (tb + 1) * s ≤ 65536 := by rw [Hs.out]; exact Nat.mul_div_le _ _
    rw [Nat.mul_right_comm] at h4
    have h6 := Nat.mul_le_mul_right (65536 ^ (n + 1)) h5
    rw [Nat.pow_succ, Nat.mul_comm (65536 ^ (n + 1))]
    omega
  have hVge : B ≤ B * s := Nat.le_mul_of_pos_right _ hs0
  have hndV : nd (B * s) = n + 2 := by
    have h1 := (nd_le_iff (n + 2) (B * s)).2 hVlt
    have h2 := nd_mono hVge
    omega
  have hB0 : 0 < B := by
    rcases Nat.eq_zero_or_pos B with h | h
    · rw [h, nd_zero] at hB; omega
    · exact h
  have HQQ : Hid (A * s / (B * s) = A / B ∧ A * s % (B * s) = A % B * s) := ⟨Nat.mul_div_mul_right _ _ hs0, Nat.mul_mod_mul_right _ _ _⟩
  have hndU : nd (A * s) ≤ nd A + 1 := by
    rw [nd_le_iff, Nat.pow_succ]
    exact Nat.mul_lt_mul'' (lt_pow_nd A) (by omega)
  have hndUV : n + 2 ≤ nd (A * s) := by rw [← hndV]; exact nd_mono (Nat.mul_le_mul_right _ hAB)
  obtain ⟨b1, o1, rfl, hcb⟩ := hsb.rd.open (by omega)
  have hcell1 := hcb (n + 1) (by omega)
  rw [← Htb.out] at hcell1
  have hsmall := fun w => small_any s w (by omega)
  have hndS : nd s ≤ 1 := (nd_le_iff 1 s).2 (by omega)
  replace hndS := hndS
  have hprodV := fun w1 a1 c1 (h1 : Rd .i64 w1 (some ⟨b1, o1, none⟩) (nd B) (dg 65536 B)) (h2 : Rd .i64 w1 a1 (nd s) (dg 65536 s)) => product_own (some ⟨b1, o1, none⟩) a1 c' c1 B s w1 (by omega) (by omega) h1 h2
  have hprodU := fun w1 a1 c1 (h1 : Rd .i64 w1 a (nd A) (dg 65536 A)) (h2 : Rd .i64 w1 a1 (nd s) (dg 65536 s)) => product_own a a1 c c1 A s w1 (by omega) (by omega) h1 h2
  obtain ⟨V, HV⟩ : ∃ V, Hid (V = B * s) := ⟨_, rfl⟩
  obtain ⟨U, HU⟩ : ∃ U, Hid (U = A * s) := ⟨_, rfl⟩
  rw [← HV.out] at hprodV hndV hVlt hVge HQQ
  rw [hB] at hprodV
  rw [← HU.out] at hprodU hndU hndUV HQQ
  replace hprodV := Lib.hid hprodV
  replace hprodU := Lib.hid hprodU
  replace hsmall := Lib.hid hsmall
  have HVlt := Lib.hid hVlt
  have HndV := Lib.hid hndV
  have hv1 : n + 2 ≤ nd V := by omega
  have hv2 : nd V ≤ n + 2 := by omega
  clear hcb htop HLB hAB hlt hVlt hndV
  rw [hB] at hsb hless ⊢
  go_enter Try.func114, Try.ntmps114
  go_wp2_with fail
  refine hless.out.mono ?_
  rintro e w1 ⟨rfl, k, rfl⟩
  go_wp2_with fail
  refine (hsmall.out _).mono ?_
  rintro e w2 ⟨a2, c2, rfl, hs2, hu2⟩
  replace hu2 : Upd0 w w2 := Upd.of_drewN hu2
  go_wp2_with fail
  with_reducible refine (hprodV.out _ _ _ (hsb.keep hu2).rd hs2.rd).mono ?_
  rintro e w3 ⟨a3, c3, rfl, hg3, hu3⟩
  replace hu3 := hu2.trans hu3
  have hsv := hg3.sl
  go_wp2_with fail
  with_reducible refine (hsmall.out _).mono ?_
  rintro e w4 ⟨a4, c4, rfl, hs4, hu4⟩
  have hsv4 := hsv.keep hu4
  replace hu4 := hu3.trans hu4
  go_wp2_with fail
  with_reducible refine (hprodU.out _ _ _ (hsa.keep hu4).rd hs4.rd).mono ?_
  rintro e w5 ⟨a5, c5, rfl, hg5, hu5⟩
  have hsv5 := hsv4.keep hu5
  have hz5 := hu5.size
  replace hu5 := hu4.trans hu5
  obtain ⟨lu, Hlu⟩ : ∃ lu, Hid (lu = nd U) := ⟨_, rfl⟩
  rw [← Hlu.out] at hndU hndUV hg5 ⊢
  obtain ⟨lq, hlq⟩ : ∃ lq, lq = lu + 1 - nd V := ⟨_, rfl⟩
  have hmk := make_num lq (by omega)
  rw [show (lq : Int) = (lu : Int) + 1 - (nd V : Int) from by omega] at hmk
  have hlq1 : lq + nd V = lu + 1 := by omega
  replace hlq1 := Lib.hid hlq1
  have hlq2 : lq + nd V ≤ lu + 1 := by omega
  have hlq3 : lu + 1 ≤ lq + nd V := by omega
  clear hlq
  go_wp2_with (at_builtin; refine wpList_append_ints rfl (.tmp 52) (.tmp 53) 50 rfl w4.heap.size 3 .i64 8 Try.underlying50 info_int a5 c5 lu _ rfl (by exact hg5.keep0 ((Upd.refl _ _).alloc _)) ⟨w5.heap.size, 0, none⟩ 1 1 (fun _ => 0) rfl (by exact Rd.one rfl) (by omega) (by omega) (by simp; omega) ?_; intro a6 c6 w6 hg6 hu6; obtain ⟨g, rfl, hown6, hb6, hl6⟩ := hg6.own (by omega))
  have hv0 := hsv4.rd.open (by omega)
  obtain ⟨bv, ov, rfl, hcv⟩ := hv0
  have hbv : bv < w4.heap.size := World.block_lt_of_cell? _ _ (hcv 0 (by omega))
  have hgv : ∀ b off, some (⟨bv, ov, none⟩ : Addr) = some ⟨b, off, none⟩ → b ≠ g := fun b off h => by cases h; omega
  have hsv6 : Sl .i64 w6 (some ⟨bv, ov, none⟩) (nd V) c3 (dg 65536 V) := (hsv5.keep ((Upd.refl _ _).alloc _)).keep' hu6 (fun b off h hS => by
    cases h
    have := (hg5.block bv hS).1
    omega)
  have hu6' : Upd0 w w6 := (hu5.alloc _).then hu6 (fun i hi h => by
    have h1 := (hg5.block i h).1
    have h2 := hu4.size
    omega)
  clear hcv
  have HLU : Hid (U < 65536 ^ lu) := by rw [Hlu.out]; exact lt_pow_nd U
  have HSTART : Hid (U % (V * 65536 ^ lq) = U) := by
    refine Nat.mod_eq_of_lt (Nat.lt_of_lt_of_le HLU.out ?_)
    have h1 := hlq1.out
    have h2 : 65536 ^ (n + 1) ≤ V := by
      rcases Nat.lt_or_ge V (65536 ^ (n + 1)) with h | h
      · have := (nd_le_iff (n + 1) V).2 h; omega
      · exact h
    rw [show lu = (n + 1) + lq by omega, Nat.pow_add]
    exact Nat.mul_le_mul_right _ h2
  have HV0 : Hid (0 < V) := by
    show 0 < V
    rcases Nat.eq_zero_or_pos V with h | h
    · rw [h, nd_zero] at hv1; omega
    · exact h
  obtain ⟨vt, Hvt⟩ : ∃ vt, Hid (vt = dg 65536 V (n + 1)) := ⟨_, rfl⟩
  have hvt0 : 0 < vt := by
    rw [Hvt.out]
    exact Nat.pos_of_ne_zero (dg_top HndV.out)
  have hvt1 : vt < 65536 := by rw [Hvt.out]; exact dg_lt (by omega) _ _
  go_loopw [12] (fun s wr => ∃ k : Nat, k ≤ lq ∧ s = .int .i64 ((k : Int) - 1) ∧ Own .i64 wr g (lu + 1) (dg 65536 (U % (V * 65536 ^ k))) ∧ Own .i64 wr w6.heap.size lq (fun j => if k ≤ j then dg 65536 (U / V) j else 0) ∧ Upd (fun i => i = g) w6 wr) (fun s _ => (intOf s + 1).toNat)
  case atStart => exact ⟨lq, Nat.le_refl _, rfl, by
    rw [HSTART.out]
    refine (hown6.keep0 ((Upd.refl _ _).alloc _)).congr fun i hi => ?_
    by_cases e : i < lu
    · rw [if_pos e]
    · rw [if_neg e, dg_of_lt' (i := i) (by omega) HLU.out (by omega)], (Own.made .i64 w6 lq _).congr (fun j hj => by rw [if_neg (by omega)]), (Upd.refl _ _).alloc _⟩
  case round =>
    clear hmk hg5 hown6 hsv5 hsv4 hs4 hs2 hg3 hsv
    obtain ⟨k, hk, hi, hown, hownq, hu⟩ := hrel
    by_cases h0 : k = 0
    · subst h0
      subst hi
      have HRV : Hid (U % V < 65536 ^ (lu + 1)) := Nat.lt_of_le_of_lt (Nat.mod_le _ _) (Nat.lt_trans HLU.out (Nat.pow_lt_pow_right (by omega) (by omega)))
      have hru : Rd .i64 wr (some ⟨g, 0, none⟩) (lu + 1) (dg 65536 (U % V)) := by
        have h1 := hown.rd
        rwa [Nat.pow_zero, Nat.mul_one] at h1
      have HQL : Hid (U / V < 65536 ^ lq) := by
        show U / V < 65536 ^ lq
        rw [Nat.div_lt_iff_lt_mul HV0.out, Nat.mul_comm, ← HSTART.out]
        exact Nat.mod_lt _ (Nat.mul_pos HV0.out (Nat.pow_pos (by omega)))
      have hrq : Rd .i64 wr (some ⟨w6.heap.size, 0, none⟩) lq (dg 65536 (U / V)) := hownq.rd.congr fun j hj => by rw [if_pos (Nat.zero_le _)]
      have hle := hu.size
      have hglc := hg6.le
      have hndR : nd (U % V) ≤ 10002 := by
        have h1 := (nd_le_iff (lu + 1) (U % V)).2 HRV.out
        omega
      replace hndR := Lib.hid hndR
      clear hown hownq
      go_wp2_with fail
      with_reducible refine (trimmed_any _ _ _ _ _ (by omega) hglc HRV.out hru).mono ?_
      rintro e w8 ⟨rfl, rfl⟩
      go_wp2_with fail
      with_reducible refine (divided_any _ _ _ s _ (by have := hndR.out; omega) hs0 (by omega) (hru.le ((nd_le_iff _ _).2 HRV.out))).mono ?_
      rintro e w9 ⟨a9, c9, rfl, hs9, hu9⟩
      go_wp2_with fail
      with_reducible refine (trimmed_any _ _ _ _ _ (by omega) (Nat.le_refl _) HQL.out (hrq.keep hu9)).mono ?_
      rintro e w10 ⟨rfl, rfl⟩
      go_wp2_with fail
      go_ret2
      have hE : U % V / s = A % B := by rw [HQQ.out.2, Nat.mul_div_cancel _ hs0]
      rw [hE] at hs9
      exact ⟨_, _, a9, c9, by rw [← HQQ.out.1, ← hE]; rfl, by
        rw [← HQQ.out.1]
        exact ⟨(nd_le_iff _ _).2 HQL.out, (hrq.keep hu9).le ((nd_le_iff _ _).2 HQL.out), fun e => by cases e⟩, hs9, (hu6'.then hu (fun i h1 h2 => by
          have h3 := hu4.size
          omega)).trans hu9⟩
    · obtain ⟨t, rfl⟩ : ∃ t, k = t + 1 := ⟨k - 1, by omega⟩
      replace hi := hi.trans (show Value.int .i64 (((t + 1 : Nat) : Int) - 1) = .int .i64 (t : Int) by congr 1; omega)
      subst hi
      have hgq : ¬ w6.heap.size = g := by omega
      have hsvr := hsv6.keep' hu (fun b off h => hgv b off h)
      obtain ⟨R, HR⟩ : ∃ R, Hid (R = U % (V * 65536 ^ (t + 1))) := ⟨_, rfl⟩
      rw [← HR.out] at hown
      have HVt : Hid (0 < V * 65536 ^ t) := Nat.mul_pos HV0.out (Nat.pow_pos (by omega))
      have HRL : Hid (R < V * 65536 ^ (t + 1)) := by rw [HR.out]; exact Nat.mod_lt _ (Nat.mul_pos HV0.out (Nat.pow_pos (by omega)))
      have HRM : Hid (R < 65536 ^ (t + (nd V + 1))) := by
        refine Nat.lt_of_lt_of_le HRL.out ?_
        rw [show t + (nd V + 1) = nd V + (t + 1) by omega, Nat.pow_add 65536 (nd V) (t + 1)]
        exact Nat.mul_le_mul_right _ (Nat.le_of_lt (lt_pow_nd V))
      have HEST := q_est (b := 65536) (n := n + 1) (t := t) (by omega) HVlt.out (by rw [← Hvt.out]; omega) HRL.out
      have HQL : R / (V * 65536 ^ t) < 65536 := q_lt HRL.out
      have hc1 := hown.cell (t + (n + 2)) (by omega)
      have hc0 := hown.cell (t + (n + 1)) (by omega)
      obtain ⟨r1, Hr1⟩ : ∃ r1, Hid (r1 = dg 65536 R (t + (n + 1 + 1))) := ⟨_, rfl⟩
      obtain ⟨r0, Hr0⟩ : ∃ r0, Hid (r0 = dg 65536 R (t + (n + 1))) := ⟨_, rfl⟩
      have br1 : r1 < 65536 := by rw [Hr1.out]; exact dg_lt (by omega) _ _
      have br0 : r0 < 65536 := by rw [Hr0.out]; exact dg_lt (by omega) _ _
      rw [show dg 65536 R (t + (n + 2)) = r1 from Hr1.out.symm, show n + 2 = nd V by omega] at hc1
      rw [← Hr0.out, show t + (n + 1) = t + nd V - 1 by omega] at hc0
      rw [← Hr1.out, ← Hr0.out, ← Hvt.out] at HEST
      obtain ⟨bv', ov', hav, hcv⟩ := hsvr.rd.open (by omega)
      cases hav
      have hc2 := hcv (nd V - 1) (by omega)
      rw [show dg 65536 V (nd V - 1) = vt by rw [Hvt.out]; congr 1; omega] at hc2
      clear hcv
      replace HEST := Lib.hid HEST
      replace HQL := Lib.hid HQL
      have i1 : (t : Int) + (nd V : Int) < (lu : Int) + 1 := by omega
      have i2 : (0 : Int) ≤ (t : Int) + (nd V : Int) := by omega
      have i3 : ((t : Int) + (nd V : Int)).toNat = t + nd V := by omega
      have i4 : (t : Int) + (nd V : Int) - 1 < (lu : Int) + 1 := by omega
      have i5 : (0 : Int) ≤ (t : Int) + (nd V : Int) - 1 := by omega
      have i5' : 1 ≤ (t : Int) + (nd V : Int) := by omega
      have i6 : ((t : Int) + (nd V : Int) - 1).toNat = t + nd V - 1 := by omega
      have e1 := w64 ((t : Int) + (nd V : Int)) (by omega) (by omega)
      have e2 := w64 ((t : Int) + (nd V : Int) - 1) (by omega) (by omega)
      have e3 := w64 ((r1 : Int) * 65536) (by omega) (by omega)
      have e4 := w64 ((r1 : Int) * 65536 + (r0 : Int)) (by omega) (by omega)
      obtain ⟨x0, Hx0⟩ : ∃ x0, Hid (x0 = (r1 * 65536 + r0) / vt) := ⟨_, rfl⟩
      rw [← Hx0.out] at HEST
      have hx0b : x0 ≤ 4294967295 := by
        rw [Hx0.out]
        exact Nat.le_trans (Nat.div_le_self _ _) (by omega)
      have ex : ((r1 : Int) * 65536 + (r0 : Int)) / (vt : Int) = (x0 : Int) := by
        rw [Hx0.out]; simp
      have hvz : ¬ (vt : Int) = 0 := by omega
      by_cases hbig : 65536 ≤ x0
      · have hbig' : decide (65536 ≤ (x0 : Int)) = true := by simp; omega
        have HKX : R / (V * 65536 ^ t) ≤ 65535 := by have := HQL.out; omega
        go_wp2_with fail
        go_quiet (fail)
        clear e1 e2 e3 e4
        have HK := Lib.hid HKX
        obtain ⟨wo, rfl⟩ : ∃ wo : World, wo = wr := ⟨_, rfl⟩
        go_wp2_with fail
        with_reducible refine (taken_at 65535 _ _ _ _ _ R V t 65535 _ rfl (by omega) (by omega) (by omega) HRM.out (hown.drewN nq) (hsvr.keep ((Upd.refl _ _).drewN nq)).rd (fun b off h => hgv b off h)).mono ?_
        intro e w1 hpost
        obtain ⟨rfl, hown1, hu1⟩ := hpost.out
        replace hu1 : Upd (fun i => i = g) wo w1 := Upd.of_drewN hu1
        go_wp2_with fail
        go_loopw [14, 15] (fun s14 s15 wr => ∃ x : Nat, x ≤ 65535 ∧ s14 = .int .i64 x ∧ s15 = .bool (fitB (x * V * 65536 ^ t) R) ∧ Hid (R / (V * 65536 ^ t) ≤ x) ∧ Own .i64 wr g (lu + 1) (dg 65536 (leftN R (x * V * 65536 ^ t) (65536 ^ (t + (nd V + 1))))) ∧ Upd (fun i => i = g) wo wr) (fun s14 _ _ => (intOf s14).toNat)
        case atStart => exact ⟨65535, by omega, rfl, rfl, HK, hown1, hu1⟩
        case round =>
          clear hown1 hu1
          obtain ⟨x, hx, rfl, rfl, HKx, hown1, hu1⟩ := hrel
          have hownq1 := hownq.keep hu1 hgq
          have HMx : Hid (x * (V * 65536 ^ t) ≤ 65536 ^ (t + (nd V + 1))) := by
            show x * (V * 65536 ^ t) ≤ 65536 ^ (t + (nd V + 1))
            rw [Nat.pow_add, Nat.mul_comm (65536 ^ t), Nat.pow_succ, Nat.mul_comm (65536 ^ nd V), ← Nat.mul_assoc]
            exact Nat.mul_le_mul_right _ (Nat.mul_le_mul (by omega) (Nat.le_of_lt (lt_pow_nd V)))
          by_cases hf : fitB (x * V * 65536 ^ t) R = true
          · have HXQ : Hid (x = R / (V * 65536 ^ t)) := q_fits HVt.out HKx.out (by rw [← Nat.mul_assoc]; exact of_decide_eq_true hf)
            have hcq := hownq1.cell t (by omega)
            have hfq := hownq1.free t (by omega)
            rw [if_neg (by omega)] at hcq
            rw [hf]
            have HF := Lib.hid hf
            clear hf
            go_wp2
            go_roundw
            case rel => exact ⟨t, by omega, rfl, by
              have h1 : leftN R (x * V * 65536 ^ t) (65536 ^ (t + (nd V + 1))) = U % (V * 65536 ^ t) := by
                unfold leftN
                rw [if_pos (of_decide_eq_true HF.out), Nat.mul_assoc, q_rest HXQ.out, HR.out, q_next]
              rw [← h1]
              exact hown1.keep ((Upd.refl (fun i => i = w6.heap.size) _).setCell _ _ (fun _ => rfl)) (fun h => hgq h.symm), by
              refine (hownq1.set (i := t) (by omega) x).congr fun j hj => ?_
              by_cases e : j = t
              · subst e; rw [if_pos rfl, if_pos (Nat.le_refl _), HXQ.out, HR.out, q_digit]
              · rw [if_neg e]
                by_cases e2 : t + 1 ≤ j
                · rw [if_pos e2, if_pos (by omega)]
                · rw [if_neg e2, if_neg (by omega)], (hu.trans hu1).setCell _ _ (fun h => by simp at h)⟩
            case measure => simp [intOf]
          · have hf : fitB (x * V * 65536 ^ t) R = false := by simpa using hf
            have hx0 : 0 < x := by
              rcases Nat.eq_zero_or_pos x with h | h
              · subst h; rw [Nat.zero_mul, Nat.zero_mul] at hf; simp [fitB] at hf
              · exact h
            have HL : Hid (leftN R (x * V * 65536 ^ t) (65536 ^ (t + (nd V + 1))) < 65536 ^ (t + (nd V + 1))) := leftN_lt HRM.out (by rw [Nat.mul_assoc]; exact HMx.out)
            have HF := Lib.hid hf
            rw [hf]
            clear hf
            have HNX : Hid (R / (V * 65536 ^ t) ≤ x - 1) := by
              show R / (V * 65536 ^ t) ≤ x - 1
              have h1 : R < x * (V * 65536 ^ t) := by
                have := of_decide_eq_false HF.out
                rw [Nat.mul_assoc] at this; omega
              have := (Nat.div_lt_iff_lt_mul HVt.out).2 h1
              omega
            go_wp2_with fail
            with_reducible refine (putBack_any _ _ _ _ _ _ V t _ (by omega) (by omega) HL.out hown1 (hsvr.keep' hu1 (fun b off h => hgv b off h)).rd (fun b off h => hgv b off h)).mono ?_
            intro e w2 hpost
            rw [Nat.mul_assoc] at hpost
            obtain ⟨rfl, hown2, hu2⟩ := hpost.out (by rw [← Nat.mul_assoc]; exact HF.out) HMx.out hx0
            rw [← Nat.mul_assoc] at hown2 ⊢
            go_wp2_with fail
            go_roundw
            case rel => exact ⟨x - 1, by omega, by congr 1; omega, rfl, HNX, hown2, hu1.trans hu2⟩
            case measure => simp [intOf]; omega
      · have hbig' : decide (65536 ≤ (x0 : Int)) = false := by simp; omega
        have HKX : R / (V * 65536 ^ t) ≤ x0 := HEST.out
        go_wp2_with fail
        go_quiet (fail)
        clear e1 e2 e3 e4
        have HK := Lib.hid HKX
        obtain ⟨wo, rfl⟩ : ∃ wo : World, wo = wr := ⟨_, rfl⟩
        go_wp2_with fail
        with_reducible refine (taken_at (x0 : Int) _ _ _ _ _ R V t x0 _ rfl (by omega) (by omega) (by omega) HRM.out (hown.drewN nq) (hsvr.keep ((Upd.refl _ _).drewN nq)).rd (fun b off h => hgv b off h)).mono ?_
        intro e w1 hpost
        obtain ⟨rfl, hown1, hu1⟩ := hpost.out
        replace hu1 : Upd (fun i => i = g) wo w1 := Upd.of_drewN hu1
        go_wp2_with fail
        go_loopw [14, 15] (fun s14 s15 wr => ∃ x : Nat, x ≤ 65535 ∧ s14 = .int .i64 x ∧ s15 = .bool (fitB (x * V * 65536 ^ t) R) ∧ Hid (R / (V * 65536 ^ t) ≤ x) ∧ Own .i64 wr g (lu + 1) (dg 65536 (leftN R (x * V * 65536 ^ t) (65536 ^ (t + (nd V + 1))))) ∧ Upd (fun i => i = g) wo wr) (fun s14 _ _ => (intOf s14).toNat)
        case atStart => exact ⟨x0, by omega, rfl, rfl, HK, hown1, hu1⟩
        case round =>
          clear hown1 hu1
          obtain ⟨x, hx, rfl, rfl, HKx, hown1, hu1⟩ := hrel
          have hownq1 := hownq.keep hu1 hgq
          have HMx : Hid (x * (V * 65536 ^ t) ≤ 65536 ^ (t + (nd V + 1))) := by
            show x * (V * 65536 ^ t) ≤ 65536 ^ (t + (nd V + 1))
            rw [Nat.pow_add, Nat.mul_comm (65536 ^ t), Nat.pow_succ, Nat.mul_comm (65536 ^ nd V), ← Nat.mul_assoc]
            exact Nat.mul_le_mul_right _ (Nat.mul_le_mul (by omega) (Nat.le_of_lt (lt_pow_nd V)))
          by_cases hf : fitB (x * V * 65536 ^ t) R = true
          · have HXQ : Hid (x = R / (V * 65536 ^ t)) := q_fits HVt.out HKx.out (by rw [← Nat.mul_assoc]; exact of_decide_eq_true hf)
            have hcq := hownq1.cell t (by omega)
            have hfq := hownq1.free t (by omega)
            rw [if_neg (by omega)] at hcq
            rw [hf]
            have HF := Lib.hid hf
            clear hf
            go_wp2
            go_roundw
            case rel => exact ⟨t, by omega, rfl, by
              have h1 : leftN R (x * V * 65536 ^ t) (65536 ^ (t + (nd V + 1))) = U % (V * 65536 ^ t) := by
                unfold leftN
                rw [if_pos (of_decide_eq_true HF.out), Nat.mul_assoc, q_rest HXQ.out, HR.out, q_next]
              rw [← h1]
              exact hown1.keep ((Upd.refl (fun i => i = w6.heap.size) _).setCell _ _ (fun _ => rfl)) (fun h => hgq h.symm), by
              refine (hownq1.set (i := t) (by omega) x).congr fun j hj => ?_
              by_cases e : j = t
              · subst e; rw [if_pos rfl, if_pos (Nat.le_refl _), HXQ.out, HR.out, q_digit]
              · rw [if_neg e]
                by_cases e2 : t + 1 ≤ j
                · rw [if_pos e2, if_pos (by omega)]
                · rw [if_neg e2, if_neg (by omega)], (hu.trans hu1).setCell _ _ (fun h => by simp at h)⟩
            case measure => simp [intOf]
          · have hf : fitB (x * V * 65536 ^ t) R = false := by simpa using hf
            have hx0 : 0 < x := by
              rcases Nat.eq_zero_or_pos x with h | h
              · subst h; rw [Nat.zero_mul, Nat.zero_mul] at hf; simp [fitB] at hf
              · exact h
            have HL : Hid (leftN R (x * V * 65536 ^ t) (65536 ^ (t + (nd V + 1))) < 65536 ^ (t + (nd V + 1))) := leftN_lt HRM.out (by rw [Nat.mul_assoc]; exact HMx.out)
            have HF := Lib.hid hf
            rw [hf]
            clear hf
            have HNX : Hid (R / (V * 65536 ^ t) ≤ x - 1) := by
              show R / (V * 65536 ^ t) ≤ x - 1
              have h1 : R < x * (V * 65536 ^ t) := by
                have := of_decide_eq_false HF.out
                rw [Nat.mul_assoc] at this; omega
              have := (Nat.div_lt_iff_lt_mul HVt.out).2 h1
              omega
            go_wp2_with fail
            with_reducible refine (putBack_any _ _ _ _ _ _ V t _ (by omega) (by omega) HL.out hown1 (hsvr.keep' hu1 (fun b off h => hgv b off h)).rd (fun b off h => hgv b off h)).mono ?_
            intro e w2 hpost
            rw [Nat.mul_assoc] at hpost
            obtain ⟨rfl, hown2, hu2⟩ := hpost.out (by rw [← Nat.mul_assoc]; exact HF.out) HMx.out hx0
            rw [← Nat.mul_assoc] at hown2 ⊢
            go_wp2_with fail
            go_roundw
            case rel => exact ⟨x - 1, by omega, by congr 1; omega, rfl, HNX, hown2, hu1.trans hu2⟩
            case measure => simp [intOf]; omega

theorem quotient_any (a a' : Option Addr) (c c' A B : Nat) (w : World) (hA : nd A ≤ 10000) (hB : nd B ≤ 10000) (hB0 : 0 < B) (hsa : Sl .i64 w a (nd A) c (dg 65536 A)) (hsb : Sl .i64 w a' (nd B) c' (dg 65536 B)) :
    Calls Try.prog 114 #[.slice a (nd A) c, .slice a' (nd B) c'] w (RetQuot w (A / B) (A % B)) := by
  by_cases h : A < B
  · exact quotient_less a a' c c' A B w hA hB h hsa hsb
  · have hp := nd_pos (N := B) (by omega)
    by_cases h1 : nd B = 1
    · exact quotient_one a a' c c' A B w hA h1 h hsa hsb
    · obtain ⟨n, hn⟩ : ∃ n, nd B = n + 2 := ⟨nd B - 2, by omega⟩
      exact quotient_many a a' c c' A B n w hA hn (by omega) h hsa hsb
end Go.Proofs.Ytmbghmjllipbhaa
