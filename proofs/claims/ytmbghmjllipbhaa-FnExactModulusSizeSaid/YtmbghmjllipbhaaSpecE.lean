/-
  Contracts of the reference's taken and putBack.
-/
import Derived.Test.YtmbghmjllipbhaaSpecD
import Derived.Test.YtmbghmjllipbhaaPlainQ
namespace Go.Proofs.Ytmbghmjllipbhaa
open Go.RowKit

/-- What stands behind taken: D was taken from U, where it could be; else there is M more. -/
def TakenPost (w : World) (g lu U D M : Nat) (e : Ending) (w' : World) : Prop :=
  (D ≤ U → e = .returned (.bool true) ∧ Own .i64 w' g lu (dg 65536 (U - D))) ∧ (¬ D ≤ U → e = .returned (.bool false) ∧ Own .i64 w' g lu (dg 65536 (U + M - D))) ∧ Upd (fun k => k = g) w w'
/-- What stands behind putBack: D was put to U, less M where that goes round. -/
def PutPost (w : World) (g lu U D M : Nat) (e : Ending) (w' : World) : Prop :=
  (M ≤ U + D → e = .returned (.bool true) ∧ Own .i64 w' g lu (dg 65536 (U + D - M))) ∧ (¬ M ≤ U + D → e = .returned (.bool false) ∧ Own .i64 w' g lu (dg 65536 (U + D))) ∧ Upd (fun k => k = g) w w'
set_option maxRecDepth 100000 in
set_option maxHeartbeats 1000000 in
theorem taken_any (g lu cu : Nat) (av : Option Addr) (cv U V t q : Nat) (w : World) (hlu : lu ≤ 1000000) (hq : q ≤ 65535) (hfit : t + nd V < lu)
    (hU : U < 65536 ^ (t + (nd V + 1))) (hown : Own .i64 w g lu (dg 65536 U)) (hrv : Rd .i64 w av (nd V) (dg 65536 V)) (hne : ∀ b off, av = some ⟨b, off, none⟩ → b ≠ g) :
    Calls Try.prog 151 #[.slice (some ⟨g, 0, none⟩) lu cu, .slice av (nd V) cv, .int .i64 t, .int .i64 q] w (TakenPost w g lu U (q * V * 65536 ^ t) (65536 ^ (t + (nd V + 1)))) := by
  have HLV : Hid (V < 65536 ^ nd V) := lt_pow_nd V
  have HU := Lib.hid hU
  generalize nd V = lv at *
  clear hU
  go_enter Try.func151, Try.ntmps151
  go_wp2
  go_loopw [9, 10] (fun s9 s10 wr => ∃ i o Z : Nat, i ≤ lv + 1 ∧ s10 = .int .i64 i ∧ s9 = .int .i64 o ∧ o ≤ q ∧ Hid (Z < 65536 ^ (t + i)) ∧ Hid (Z + q * (V % 65536 ^ i) * 65536 ^ t = U % 65536 ^ (t + i) + o * 65536 ^ (t + i)) ∧ Own .i64 wr g lu (fun j => if j < t + i then dg 65536 Z j else dg 65536 U j) ∧ Upd (fun k => k = g) w wr) (fun _ s _ => lv + 1 - (intOf s).toNat)
  case atStart => exact ⟨0, 0, U % 65536 ^ t, Nat.zero_le _, rfl, rfl, Nat.zero_le _, Nat.mod_lt _ (Nat.pow_pos (by omega)), by show _ = _; simp [Nat.mod_one], hown.congr fun j hj => by
    rw [Nat.add_zero]
    by_cases e : j < t
    · rw [if_pos e, dg_mod_lt (by omega) e]
    · rw [if_neg e], .refl _ _⟩
  case round =>
    clear hown
    obtain ⟨i, o, Z, hi, rfl, rfl, ho, HZ, HI, hown, hu⟩ := hrel
    by_cases hlt : i ≤ lv
    · have hcell1 := hown.cell (t + i) (by omega)
      have hfree1 := hown.free (t + i) (by omega)
      rw [if_neg (by omega)] at hcell1
      obtain ⟨u, Hu⟩ : ∃ u, Hid (u = dg 65536 U (t + i)) := ⟨_, rfl⟩
      have hub : u < 65536 := by rw [Hu.out]; exact dg_lt (by omega) _ _
      rw [← Hu.out] at hcell1
      by_cases hltv : i < lv
      · obtain ⟨b2, o2, y, rfl, hcell2, hy, HY⟩ : ∃ b off d, av = some ⟨b, off, none⟩ ∧ wr.cell? ⟨b, off + i, none⟩ = some (.int .i64 (d : Nat)) ∧ d < 65536 ∧ Hid (d = dg 65536 V i) := by
          obtain ⟨b, off, d, rfl, h1, h2, h3⟩ := num_cell hrv hltv
          exact ⟨b, off, d, rfl, hu.cell (p := ⟨b, off + i, none⟩) (hne b off rfl) h1, h2, h3⟩
        obtain ⟨p, HP⟩ : ∃ p, Hid (p = q * y) := ⟨_, rfl⟩
        have hp1 : p ≤ q * 65535 := by rw [HP.out]; exact Nat.mul_le_mul_left _ (by omega)
        have ep : IntKind.i64.wrap ((q : Int) * (y : Int)) = (p : Int) := by
          rw [show (q : Int) * (y : Int) = ((q * y : Nat) : Int) from by simp, ← HP.out]
          exact w64 _ (by omega) (by omega)
        have ep2 : (q : Int) * (y : Int) = (p : Int) := by rw [HP.out]; simp
        by_cases hneg : u < o + p
        · have hst : Hid _ := take_step (b := 65536) (x := u + (o + p - u + 65535) / 65536 * 65536 - o - p) (o' := (o + p - u + 65535) / 65536) (by omega) HZ.out HI.out (by omega) (by rw [← HY.out, ← HP.out, ← Hu.out]; omega)
          go_wp2
          go_roundw
          case rel => exact ⟨i + 1, ((o + p - u + 65535) / 65536), Z + (u + (o + p - u + 65535) / 65536 * 65536 - o - p) * 65536 ^ (t + i), by omega, by go_num, by congr 1 <;> omega, by omega, hst.out.1, hst.out.2.1, by
            have h := hown.set (i := t + i) (by omega) (u + (o + p - u + 65535) / 65536 * 65536 - o - p)
            rw [show (((u + (o + p - u + 65535) / 65536 * 65536 - o - p) : Nat) : Int) = (u : Int) - (o : Int) - (p : Int) + (-((u : Int) - (o : Int) - (p : Int)) + 65536 - 1) / 65536 * 65536 from by omega] at h
            refine h.congr fun j hj => ?_
            by_cases e : j = t + i
            · subst e; rw [if_pos rfl, if_pos (by omega), hst.out.2.2.2]
            · rw [if_neg e]
              by_cases e2 : j < t + i
              · rw [if_pos e2, if_pos (by omega), hst.out.2.2.1 j e2]
              · rw [if_neg e2, if_neg (by omega)], hu.setCell _ _ (fun _ => rfl)⟩
          case measure => simp [intOf]; omega
        · have hst : Hid _ := take_step (b := 65536) (x := u - o - p) (o' := 0) (by omega) HZ.out HI.out (by omega) (by rw [← HY.out, ← HP.out, ← Hu.out]; omega)
          go_wp2
          go_roundw
          case rel => exact ⟨i + 1, 0, Z + (u - o - p) * 65536 ^ (t + i), by omega, by go_num, by congr 1 <;> omega, by omega, hst.out.1, hst.out.2.1, by
            have h := hown.set (i := t + i) (by omega) (u - o - p)
            rw [show (((u - o - p) : Nat) : Int) = (u : Int) - (o : Int) - (p : Int) from by omega] at h
            refine h.congr fun j hj => ?_
            by_cases e : j = t + i
            · subst e; rw [if_pos rfl, if_pos (by omega), hst.out.2.2.2]
            · rw [if_neg e]
              by_cases e2 : j < t + i
              · rw [if_pos e2, if_pos (by omega), hst.out.2.2.1 j e2]
              · rw [if_neg e2, if_neg (by omega)], hu.setCell _ _ (fun _ => rfl)⟩
          case measure => simp [intOf]; omega
      · have HV0 : Hid (dg 65536 V i = 0) := dg_of_lt' (by omega) HLV.out (by omega)
        by_cases hneg : u < o
        · have hst : Hid _ := take_step (b := 65536) (x := u + (o - u + 65535) / 65536 * 65536 - o) (o' := (o - u + 65535) / 65536) (by omega) HZ.out HI.out (by omega) (by rw [HV0.out, Nat.mul_zero, ← Hu.out]; omega)
          go_wp2
          go_roundw
          case rel => exact ⟨i + 1, ((o - u + 65535) / 65536), Z + (u + (o - u + 65535) / 65536 * 65536 - o) * 65536 ^ (t + i), by omega, by go_num, by congr 1 <;> omega, by omega, hst.out.1, hst.out.2.1, by
            have h := hown.set (i := t + i) (by omega) (u + (o - u + 65535) / 65536 * 65536 - o)
            rw [show (((u + (o - u + 65535) / 65536 * 65536 - o) : Nat) : Int) = (u : Int) - (o : Int) + (-((u : Int) - (o : Int)) + 65536 - 1) / 65536 * 65536 from by omega] at h
            refine h.congr fun j hj => ?_
            by_cases e : j = t + i
            · subst e; rw [if_pos rfl, if_pos (by omega), hst.out.2.2.2]
            · rw [if_neg e]
              by_cases e2 : j < t + i
              · rw [if_pos e2, if_pos (by omega), hst.out.2.2.1 j e2]
              · rw [if_neg e2, if_neg (by omega)], hu.setCell _ _ (fun _ => rfl)⟩
          case measure => simp [intOf]; omega
        · have hst : Hid _ := take_step (b := 65536) (x := u - o) (o' := 0) (by omega) HZ.out HI.out (by omega) (by rw [HV0.out, Nat.mul_zero, ← Hu.out]; omega)
          go_wp2
          go_roundw
          case rel => exact ⟨i + 1, 0, Z + (u - o) * 65536 ^ (t + i), by omega, by go_num, by congr 1 <;> omega, by omega, hst.out.1, hst.out.2.1, by
            have h := hown.set (i := t + i) (by omega) (u - o)
            rw [show (((u - o) : Nat) : Int) = (u : Int) - (o : Int) from by omega] at h
            refine h.congr fun j hj => ?_
            by_cases e : j = t + i
            · subst e; rw [if_pos rfl, if_pos (by omega), hst.out.2.2.2]
            · rw [if_neg e]
              by_cases e2 : j < t + i
              · rw [if_pos e2, if_pos (by omega), hst.out.2.2.1 j e2]
              · rw [if_neg e2, if_neg (by omega)], hu.setCell _ _ (fun _ => rfl)⟩
          case measure => simp [intOf]; omega
    · obtain rfl : i = lv + 1 := by omega
      have HV1 : V % 65536 ^ (lv + 1) = V := Nat.mod_eq_of_lt (Nat.lt_trans HLV.out (Nat.pow_lt_pow_right (by omega) (by omega)))
      have HI2 := HI.out
      rw [HV1, Nat.mod_eq_of_lt HU.out] at HI2
      have HM : q * V * 65536 ^ t < 65536 ^ (t + (lv + 1)) := by
        rw [Nat.pow_add, Nat.mul_comm (65536 ^ t), Nat.pow_succ, Nat.mul_comm (65536 ^ lv)]
        refine Nat.mul_lt_mul_of_pos_right ?_ (Nat.pow_pos (by omega))
        exact Nat.mul_lt_mul'' (show q < 65536 by omega) HLV.out
      have HZo := HZ.out
      have HOO : Hid (∀ i, i < lu → (if i < t + (lv + 1) then dg 65536 Z i else dg 65536 U i) = dg 65536 Z i) := fun i _ => by
        by_cases e : i < t + (lv + 1)
        · rw [if_pos e]
        · rw [if_neg e, dg_of_lt' (i := i) (by omega) HU.out (by omega), dg_of_lt' (i := i) (by omega) HZ.out (by omega)]
      have hown2 := hown.congr HOO.out
      have HEND : Hid ((o = 0 → q * V * 65536 ^ t ≤ U ∧ U - q * V * 65536 ^ t = Z) ∧ (o ≠ 0 → ¬ q * V * 65536 ^ t ≤ U ∧ U + 65536 ^ (t + (lv + 1)) - q * V * 65536 ^ t = Z)) := by
        have h2 := HU.out
        generalize q * V * 65536 ^ t = D at *
        generalize 65536 ^ (t + (lv + 1)) = M at *
        constructor
        · rintro rfl; rw [Nat.zero_mul] at HI2; omega
        · intro h0
          have h1 : o = 1 := by
            rcases Nat.lt_or_ge o 2 with h | h
            · omega
            · have := Nat.mul_le_mul_right M h
              omega
          subst h1
          rw [Nat.one_mul] at HI2
          omega
      clear hown HI2 HM HZo HV1
      by_cases h0 : o = 0
      · subst h0
        have HE := HEND.out.1 rfl
        replace HE := Lib.hid HE
        go_wp2
        go_ret
        exact ⟨fun _ => ⟨rfl, by rw [HE.out.2]; exact hown2⟩, fun h => absurd HE.out.1 h, hu⟩
      · have h0' : ((o : Int) == 0) = false := by rw [beq_eq_false_iff_ne]; omega
        have HE := HEND.out.2 h0
        replace HE := Lib.hid HE
        go_wp2
        go_ret
        exact ⟨fun h => absurd h HE.out.1, fun _ => ⟨rfl, by rw [HE.out.2]; exact hown2⟩, hu⟩

set_option maxRecDepth 100000 in
set_option maxHeartbeats 1000000 in
theorem putBack_any (g lu cu : Nat) (av : Option Addr) (cv U V t : Nat) (w : World) (hlu : lu ≤ 1000000) (hfit : t + nd V < lu)
    (hU : U < 65536 ^ (t + (nd V + 1))) (hown : Own .i64 w g lu (dg 65536 U)) (hrv : Rd .i64 w av (nd V) (dg 65536 V)) (hne : ∀ b off, av = some ⟨b, off, none⟩ → b ≠ g) :
    Calls Try.prog 152 #[.slice (some ⟨g, 0, none⟩) lu cu, .slice av (nd V) cv, .int .i64 t] w (PutPost w g lu U (V * 65536 ^ t) (65536 ^ (t + (nd V + 1)))) := by
  have HLV : Hid (V < 65536 ^ nd V) := lt_pow_nd V
  have HU := Lib.hid hU
  generalize nd V = lv at *
  clear hU
  go_enter Try.func152, Try.ntmps152
  go_wp2
  go_loopw [7, 8] (fun s9 s10 wr => ∃ i o Z : Nat, i ≤ lv + 1 ∧ s10 = .int .i64 i ∧ s9 = .int .i64 o ∧ o ≤ 1 ∧ Hid (Z < 65536 ^ (t + i)) ∧ Hid (Z + o * 65536 ^ (t + i) = U % 65536 ^ (t + i) + V % 65536 ^ i * 65536 ^ t) ∧ Own .i64 wr g lu (fun j => if j < t + i then dg 65536 Z j else dg 65536 U j) ∧ Upd (fun k => k = g) w wr) (fun _ s _ => lv + 1 - (intOf s).toNat)
  case atStart => exact ⟨0, 0, U % 65536 ^ t, Nat.zero_le _, rfl, rfl, Nat.zero_le _, Nat.mod_lt _ (Nat.pow_pos (by omega)), by show _ = _; simp [Nat.mod_one], hown.congr fun j hj => by
    rw [Nat.add_zero]
    by_cases e : j < t
    · rw [if_pos e, dg_mod_lt (by omega) e]
    · rw [if_neg e], .refl _ _⟩
  case round =>
    clear hown
    obtain ⟨i, o, Z, hi, rfl, rfl, ho, HZ, HI, hown, hu⟩ := hrel
    by_cases hlt : i ≤ lv
    · have hcell1 := hown.cell (t + i) (by omega)
      have hfree1 := hown.free (t + i) (by omega)
      rw [if_neg (by omega)] at hcell1
      obtain ⟨u, Hu⟩ : ∃ u, Hid (u = dg 65536 U (t + i)) := ⟨_, rfl⟩
      have hub : u < 65536 := by rw [Hu.out]; exact dg_lt (by omega) _ _
      rw [← Hu.out] at hcell1
      by_cases hltv : i < lv
      · obtain ⟨b2, o2, y, rfl, hcell2, hy, HY⟩ : ∃ b off d, av = some ⟨b, off, none⟩ ∧ wr.cell? ⟨b, off + i, none⟩ = some (.int .i64 (d : Nat)) ∧ d < 65536 ∧ Hid (d = dg 65536 V i) := by
          obtain ⟨b, off, d, rfl, h1, h2, h3⟩ := num_cell hrv hltv
          exact ⟨b, off, d, rfl, hu.cell (p := ⟨b, off + i, none⟩) (hne b off rfl) h1, h2, h3⟩
        have hst : Hid _ := put_step (b := 65536) (T := o + u + y) (by omega) HZ.out HI.out (by rw [← HY.out, ← Hu.out])
        go_wp2
        go_roundw
        case rel => exact ⟨i + 1, (o + u + y) / 65536, Z + (o + u + y) % 65536 * 65536 ^ (t + i), by omega, by go_num, by congr 1 <;> omega, by omega, hst.out.1, hst.out.2.1, by
          have h := hown.set (i := t + i) (by omega) ((o + u + y) % 65536)
          rw [show (((o + u + y) % 65536 : Nat) : Int) = ((o : Int) + (u : Int) + (y : Int)) % 65536 from by omega] at h
          refine h.congr fun j hj => ?_
          by_cases e : j = t + i
          · subst e; rw [if_pos rfl, if_pos (by omega), hst.out.2.2.2]
          · rw [if_neg e]
            by_cases e2 : j < t + i
            · rw [if_pos e2, if_pos (by omega), hst.out.2.2.1 j e2]
            · rw [if_neg e2, if_neg (by omega)], hu.setCell _ _ (fun _ => rfl)⟩
        case measure => simp [intOf]; omega
      · have HV0 : Hid (dg 65536 V i = 0) := dg_of_lt' (by omega) HLV.out (by omega)
        have hst : Hid _ := put_step (b := 65536) (T := o + u) (by omega) HZ.out HI.out (by rw [HV0.out, ← Hu.out]; rfl)
        go_wp2
        go_roundw
        case rel => exact ⟨i + 1, (o + u) / 65536, Z + (o + u) % 65536 * 65536 ^ (t + i), by omega, by go_num, by congr 1 <;> omega, by omega, hst.out.1, hst.out.2.1, by
          have h := hown.set (i := t + i) (by omega) ((o + u) % 65536)
          rw [show (((o + u) % 65536 : Nat) : Int) = ((o : Int) + (u : Int)) % 65536 from by omega] at h
          refine h.congr fun j hj => ?_
          by_cases e : j = t + i
          · subst e; rw [if_pos rfl, if_pos (by omega), hst.out.2.2.2]
          · rw [if_neg e]
            by_cases e2 : j < t + i
            · rw [if_pos e2, if_pos (by omega), hst.out.2.2.1 j e2]
            · rw [if_neg e2, if_neg (by omega)], hu.setCell _ _ (fun _ => rfl)⟩
        case measure => simp [intOf]; omega
    · obtain rfl : i = lv + 1 := by omega
      have HV1 : V % 65536 ^ (lv + 1) = V := Nat.mod_eq_of_lt (Nat.lt_trans HLV.out (Nat.pow_lt_pow_right (by omega) (by omega)))
      have HI2 := HI.out
      rw [HV1, Nat.mod_eq_of_lt HU.out] at HI2
      have HZo := HZ.out
      have HOO : Hid (∀ i, i < lu → (if i < t + (lv + 1) then dg 65536 Z i else dg 65536 U i) = dg 65536 Z i) := fun i _ => by
        by_cases e : i < t + (lv + 1)
        · rw [if_pos e]
        · rw [if_neg e, dg_of_lt' (i := i) (by omega) HU.out (by omega), dg_of_lt' (i := i) (by omega) HZ.out (by omega)]
      have hown2 := hown.congr HOO.out
      have HEND : Hid ((o = 0 → ¬ 65536 ^ (t + (lv + 1)) ≤ U + V * 65536 ^ t ∧ U + V * 65536 ^ t = Z) ∧ (o = 1 → 65536 ^ (t + (lv + 1)) ≤ U + V * 65536 ^ t ∧ U + V * 65536 ^ t - 65536 ^ (t + (lv + 1)) = Z)) := by
        generalize V * 65536 ^ t = D at *
        generalize 65536 ^ (t + (lv + 1)) = M at *
        constructor
        · rintro rfl; rw [Nat.zero_mul] at HI2; omega
        · rintro rfl; rw [Nat.one_mul] at HI2; omega
      clear hown HI2 HZo HV1
      by_cases h0 : o = 0
      · subst h0
        have HE := HEND.out.1 rfl
        replace HE := Lib.hid HE
        go_wp2
        go_ret
        exact ⟨fun h => absurd h HE.out.1, fun _ => ⟨rfl, by rw [HE.out.2]; exact hown2⟩, hu⟩
      · obtain rfl : o = 1 := by omega
        have HE := HEND.out.2 rfl
        replace HE := Lib.hid HE
        go_wp2
        go_ret
        exact ⟨fun _ => ⟨rfl, by rw [HE.out.2]; exact hown2⟩, fun h => absurd HE.out.1 h, hu⟩
end Go.Proofs.Ytmbghmjllipbhaa
