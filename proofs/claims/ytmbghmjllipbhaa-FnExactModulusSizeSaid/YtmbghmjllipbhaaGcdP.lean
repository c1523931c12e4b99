/-
  The plain law of extendedGCD: what holds at the head of its loop.
-/
import Derived.Test.YtmbghmjllipbhaaPlain
namespace Go.Proofs.Ytmbghmjllipbhaa

theorem gcd_half {u v : Nat} (hu : u % 2 = 0) (hv : v % 2 = 1) : Nat.gcd (u / 2) v = Nat.gcd u v := by
  have hc : Nat.Coprime 2 v := by
    have h1 : Nat.gcd 2 v ∣ 2 := Nat.gcd_dvd_left 2 v
    have h2 : Nat.gcd 2 v ∣ v := Nat.gcd_dvd_right 2 v
    have h3 : Nat.gcd 2 v ≤ 2 := Nat.le_of_dvd (by omega) h1
    have h4 : 0 < Nat.gcd 2 v := Nat.gcd_pos_of_pos_left _ (by omega)
    rcases (show Nat.gcd 2 v = 1 ∨ Nat.gcd 2 v = 2 by omega) with h | h
    · exact h
    · rw [h] at h2; omega
  have := Nat.Coprime.gcd_mul_left_cancel (u / 2) hc
  rw [show 2 * (u / 2) = u by omega] at this
  exact this.symm
theorem dvd_half {u v : Nat} (hu : u % 2 = 1) (hv : v % 2 = 0) (h : u ∣ v) : u ∣ v / 2 := by
  obtain ⟨k, hk⟩ := h
  have h2 : k % 2 = 0 := by
    rcases Nat.mod_two_eq_zero_or_one k with h | h
    · exact h
    · have : u * k % 2 = 1 := by rw [Nat.mul_mod, hu, h]
      omega
  refine ⟨k / 2, ?_⟩
  have h3 : u * k = 2 * (u * (k / 2)) := by
    rw [Nat.mul_left_comm, show 2 * (k / 2) = k by omega]
  omega

/-- Half of X, with q more where X or Y is odd. -/
def hfN (X Y q : Nat) : Nat := if X % 2 = 1 ∨ Y % 2 = 1 then (X + q) / 2 else X / 2
theorem hfN_le {X Y q : Nat} (h : X ≤ q) : hfN X Y q ≤ q := by unfold hfN; split <;> omega
theorem hfN_lt {X Y q : Nat} (h : X < q) : hfN X Y q < q := by unfold hfN; split <;> omega
theorem half_step {X p Y q t : Nat} (h : X * p = t + Y * q) (ht : t % 2 = 0) (ho : p % 2 = 1 ∨ q % 2 = 1) : hfN X Y q * p = t / 2 + hfN Y X p * q := by
  have hm : X * p % 2 = Y * q % 2 := by rw [h]; omega
  rw [Nat.mul_mod, Nat.mul_mod Y q] at hm
  unfold hfN
  by_cases ho2 : X % 2 = 1 ∨ Y % 2 = 1
  · rw [if_pos ho2, if_pos (ho2.symm)]
    have e1 : X % 2 = q % 2 ∧ Y % 2 = p % 2 := by
      rcases Nat.mod_two_eq_zero_or_one X with a | a <;> rcases Nat.mod_two_eq_zero_or_one Y with b | b <;> rcases Nat.mod_two_eq_zero_or_one p with c | c <;> rcases Nat.mod_two_eq_zero_or_one q with d | d <;> rw [a, b, c, d] at hm <;> simp at hm <;> omega
    obtain ⟨x, hx⟩ : ∃ x, X + q = 2 * x := ⟨(X + q) / 2, by omega⟩
    obtain ⟨y, hy⟩ : ∃ y, Y + p = 2 * y := ⟨(Y + p) / 2, by omega⟩
    obtain ⟨s, hs⟩ : ∃ s, t = 2 * s := ⟨t / 2, by omega⟩
    rw [hx, hy, hs]
    have f1 : (X + q) * p = X * p + q * p := Nat.add_mul ..
    have f2 : (Y + p) * q = Y * q + q * p := by rw [Nat.add_mul, Nat.mul_comm p q]
    rw [hx, Nat.mul_assoc] at f1
    rw [hy, Nat.mul_assoc] at f2
    simp only [Nat.mul_div_cancel_left _ (show 0 < 2 by omega)]
    generalize x * p = A at *
    generalize y * q = B at *
    generalize X * p = C at *
    generalize Y * q = D at *
    generalize q * p = E at *
    omega
  · rw [if_neg ho2, if_neg (fun h => ho2 h.symm)]
    obtain ⟨x, hx⟩ : ∃ x, X = 2 * x := ⟨X / 2, by omega⟩
    obtain ⟨y, hy⟩ : ∃ y, Y = 2 * y := ⟨Y / 2, by omega⟩
    obtain ⟨s, hs⟩ : ∃ s, t = 2 * s := ⟨t / 2, by omega⟩
    rw [hx, hy, hs, Nat.mul_assoc, Nat.mul_assoc] at h
    rw [hx, hy, hs]
    simp only [Nat.mul_div_cancel_left _ (show 0 < 2 by omega)]
    generalize x * p = A at *
    generalize y * q = B at *
    omega

/-- X + Y, and M less where it is not below M. -/
def rdN (T M : Nat) : Nat := if M ≤ T then T - M else T
theorem rdN_le {X Y M : Nat} (h1 : X ≤ M) (h2 : Y ≤ M) : rdN (X + Y) M ≤ M := by unfold rdN; split <;> omega

/-- The exact equations. -/
structure GExact (a m u v A B C D : Nat) : Prop where
  hA : A < m
  hB : B < a
  hC : C < m
  hD : D < a
  e1 : A * a = u + B * m
  e2 : D * m = v + C * a
  far : a ≤ v → u ∣ a
/-- u and A will not change any more. -/
structure GFroz (a m u v A : Nat) : Prop where
  hA : A < m
  odd : u % 2 = 1
  dvd : u ∣ v
  e : A * a % m = u % m
/-- What holds at the head of the loop, and behind its first half. -/
structure GI (a m u v A B C D : Nat) : Prop where
  g : Nat.gcd u v = Nat.gcd a m
  u0 : 0 < u
  par : u % 2 = 1 ∨ v % 2 = 1
  od : a % 2 = 1 ∨ m % 2 = 1
  ul : u ≤ a
  vl : v ≤ m
  bA : A ≤ m
  bB : B ≤ a
  bC : C ≤ m
  bD : D ≤ a
  ex : a < m → GFroz a m u v A ∨ GExact a m u v A B C D

theorem GI.start {a m : Nat} (ha : 0 < a) (hm : 0 < m) (ho : a % 2 = 1 ∨ m % 2 = 1) : GI a m a m 1 0 0 1 where
  g := rfl
  u0 := ha
  par := ho
  od := ho
  ul := Nat.le_refl _
  vl := Nat.le_refl _
  bA := hm
  bB := Nat.zero_le _
  bC := Nat.zero_le _
  bD := ha
  ex := fun h => by
    rcases (show a = 1 ∨ 1 < a by omega) with h1 | h1
    · subst h1
      exact .inl ⟨h, rfl, Nat.one_dvd _, by simp⟩
    · exact .inr ⟨by omega, by omega, by omega, h1, by omega, by omega, fun _ => Nat.dvd_refl _⟩

theorem GI.subU {a m u v A B C D : Nat} (h : GI a m u v A B C D) (hu : u % 2 = 1) (hv : v % 2 = 1) (hlt : v < u) : GI a m (u - v) v (rdN (A + C) m) (rdN (B + D) a) C D where
  g := by rw [← h.g]; exact Nat.gcd_sub_self_left (Nat.le_of_lt hlt)
  u0 := by omega
  par := .inr hv
  od := h.od
  ul := by have := h.ul; omega
  vl := h.vl
  bA := rdN_le h.bA h.bC
  bB := rdN_le h.bB h.bD
  bC := h.bC
  bD := h.bD
  ex := fun ham => by
    have hul := h.ul
    rcases h.ex ham with k | k
    · have := Nat.le_of_dvd (by omega) k.dvd
      omega
    · obtain ⟨hA, hB, hC, hD, e1, e2, _⟩ := k
      right
      have e3 : (A + C) * a = (u - v) + (B + D) * m := by
        rw [Nat.add_mul, Nat.add_mul]; omega
      have hS : A + C < 2 * m := by omega
      have hT : B + D < 2 * a := by omega
      have hiff : m ≤ A + C ↔ a ≤ B + D := by
        generalize A + C = S at *
        generalize B + D = T at *
        constructor
        · intro h1
          refine Nat.le_of_not_lt fun h2 => ?_
          have f1 : m * a ≤ S * a := Nat.mul_le_mul_right _ h1
          have f2 : (T + 1) * m ≤ a * m := Nat.mul_le_mul_right _ h2
          rw [Nat.add_mul, Nat.one_mul, Nat.mul_comm a m] at f2
          omega
        · intro h1
          refine Nat.le_of_not_lt fun h2 => ?_
          have f1 : a * m ≤ T * m := Nat.mul_le_mul_right _ h1
          have f2 : (S + 1) * a ≤ m * a := Nat.mul_le_mul_right _ h2
          rw [Nat.add_mul, Nat.one_mul, Nat.mul_comm m a] at f2
          omega
      by_cases h1 : m ≤ A + C
      · have h2 := hiff.1 h1
        have r1 : rdN (A + C) m = A + C - m := if_pos h1
        have r2 : rdN (B + D) a = B + D - a := if_pos h2
        rw [r1, r2]
        refine ⟨by omega, by omega, hC, hD, ?_, e2, fun h3 => by omega⟩
        rw [Nat.sub_mul, Nat.sub_mul, e3, Nat.mul_comm m a]
        have : a * m ≤ (B + D) * m := Nat.mul_le_mul_right _ h2
        omega
      · have h2 : ¬ a ≤ B + D := fun h2 => h1 (hiff.2 h2)
        have r1 : rdN (A + C) m = A + C := if_neg h1
        have r2 : rdN (B + D) a = B + D := if_neg h2
        rw [r1, r2]
        exact ⟨by omega, by omega, hC, hD, e3, e2, fun h3 => by omega⟩

theorem GI.subV {a m u v A B C D : Nat} (h : GI a m u v A B C D) (hu : u % 2 = 1) (_hv : v % 2 = 1) (hle : u ≤ v) : GI a m u (v - u) A B (rdN (C + A) m) (rdN (D + B) a) where
  g := by rw [← h.g]; exact Nat.gcd_sub_self_right hle
  u0 := h.u0
  par := .inl hu
  od := h.od
  ul := h.ul
  vl := by have := h.vl; omega
  bA := h.bA
  bB := h.bB
  bC := rdN_le h.bC h.bA
  bD := rdN_le h.bD h.bB
  ex := fun ham => by
    have hul := h.ul
    have hvl := h.vl
    have hu0 := h.u0
    rcases h.ex ham with k | k
    · exact .inl ⟨k.hA, hu, Nat.dvd_sub k.dvd (Nat.dvd_refl _), k.e⟩
    · obtain ⟨hA, hB, hC, hD, e1, e2, far⟩ := k
      have e3 : (D + B) * m = (v - u) + (C + A) * a := by
        rw [Nat.add_mul, Nat.add_mul]; omega
      have hS : C + A < 2 * m := by omega
      have hT : D + B < 2 * a := by omega
      have h12 : m ≤ C + A → a ≤ D + B := by
        generalize C + A = S at *
        generalize D + B = T at *
        intro h1
        refine Nat.le_of_not_lt fun h2 => ?_
        have f1 : m * a ≤ S * a := Nat.mul_le_mul_right _ h1
        have f2 : (T + 1) * m ≤ a * m := Nat.mul_le_mul_right _ h2
        rw [Nat.add_mul, Nat.one_mul, Nat.mul_comm a m] at f2
        omega
      by_cases h1 : m ≤ C + A
      · have h2 := h12 h1
        have r1 : rdN (C + A) m = C + A - m := if_pos h1
        have r2 : rdN (D + B) a = D + B - a := if_pos h2
        rw [r1, r2]
        refine .inr ⟨hA, hB, by omega, by omega, e1, ?_, fun h3 => far (by omega)⟩
        rw [Nat.sub_mul, Nat.sub_mul, e3, Nat.mul_comm m a]
        have : m * a ≤ (C + A) * a := Nat.mul_le_mul_right _ h1
        rw [Nat.mul_comm m a] at this
        omega
      · by_cases h2 : a ≤ D + B
        · left
          refine ⟨hA, hu, ?_, by rw [e1, Nat.add_mul_mod_self_right]⟩
          have f2 : (C + A + 1) * a ≤ m * a := Nat.mul_le_mul_right _ (by omega)
          rw [Nat.add_mul, Nat.one_mul, Nat.mul_comm m a] at f2
          have hTa : D + B = a := by
            refine Nat.le_antisymm (Nat.le_of_not_lt fun h3 => ?_) h2
            have f1 : (a + 1) * m ≤ (D + B) * m := Nat.mul_le_mul_right _ h3
            rw [Nat.add_mul, Nat.one_mul] at f1
            omega
          rw [hTa] at e3
          have hd : u ∣ a := far (by omega)
          have e4 : v - u = a * (m - (C + A)) := by
            rw [Nat.mul_sub, Nat.mul_comm a (C + A)]; omega
          rw [e4]
          exact Nat.dvd_trans hd (Nat.dvd_mul_right _ _)
        · have r1 : rdN (C + A) m = C + A := if_neg h1
          have r2 : rdN (D + B) a = D + B := if_neg h2
          rw [r1, r2]
          exact .inr ⟨hA, hB, by omega, by omega, e1, e3, fun h3 => far (by omega)⟩

theorem GI.halfU {a m u v A B C D : Nat} (h : GI a m u v A B C D) (hu : u % 2 = 0) : GI a m (u / 2) v (hfN A B m) (hfN B A a) C D where
  g := by rw [← h.g]; exact gcd_half hu (by have := h.par; omega)
  u0 := by have := h.u0; omega
  par := .inr (by have := h.par; omega)
  od := h.od
  ul := by have := h.ul; omega
  vl := h.vl
  bA := hfN_le h.bA
  bB := hfN_le h.bB
  bC := h.bC
  bD := h.bD
  ex := fun ham => by
    rcases h.ex ham with k | k
    · have := k.odd; omega
    · obtain ⟨hA, hB, hC, hD, e1, e2, far⟩ := k
      refine .inr ⟨hfN_lt hA, hfN_lt hB, hC, hD, half_step e1 hu h.od, e2, fun h3 => ?_⟩
      obtain ⟨k, hk⟩ := far h3
      refine ⟨2 * k, ?_⟩
      rw [hk, ← Nat.mul_assoc, Nat.mul_comm (u / 2) 2, show 2 * (u / 2) = u by omega]

theorem GI.halfV {a m u v A B C D : Nat} (h : GI a m u v A B C D) (hv : v % 2 = 0) : GI a m u (v / 2) A B (hfN C D m) (hfN D C a) where
  g := by
    rw [← h.g, Nat.gcd_comm u v, Nat.gcd_comm u]; exact gcd_half hv (by have := h.par; omega)
  u0 := h.u0
  par := .inl (by have := h.par; omega)
  od := h.od
  ul := h.ul
  vl := by have := h.vl; omega
  bA := h.bA
  bB := h.bB
  bC := hfN_le h.bC
  bD := hfN_le h.bD
  ex := fun ham => by
    rcases h.ex ham with k | k
    · exact .inl ⟨k.hA, k.odd, dvd_half k.odd hv k.dvd, k.e⟩
    · obtain ⟨hA, hB, hC, hD, e1, e2, far⟩ := k
      exact .inr ⟨hA, hB, hfN_lt hC, hfN_lt hD, e1, half_step e2 hv h.od.symm, fun h3 => far (by omega)⟩

theorem GI.done {a m u A B C D : Nat} (h : GI a m u 0 A B C D) : u = Nat.gcd a m ∧ (a < m → A < m ∧ A * a % m = u % m) := by
  refine ⟨by have := h.g; rwa [Nat.gcd_zero_right] at this, fun ham => ?_⟩
  rcases h.ex ham with k | k
  · exact ⟨k.hA, k.e⟩
  · exact ⟨k.hA, by rw [k.e1, Nat.add_mul_mod_self_right]⟩
end Go.Proofs.Ytmbghmjllipbhaa
