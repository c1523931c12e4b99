/-
  Plain law: Fermat's little theorem at some primes, by a number whose powers are all the others (certificates after Lucas and Pratt).
-/
import Derived.Test.YtpojonfopoobpaaNumB
namespace Go.Proofs.Ytpojonfopoobpaa

/-- b to the power of e modulo m, by squaring; at most t bits of e. -/
def pm (m : Nat) : Nat → Nat → Nat → Nat
  | 0, _, _ => 1 % m
  | t + 1, b, e => if e % 2 = 1 then b * pm m t (b * b % m) (e / 2) % m else pm m t (b * b % m) (e / 2)
theorem pm_eq (m : Nat) : ∀ t b e, e < 2 ^ t → pm m t b e = b ^ e % m := by
  intro t
  induction t with
  | zero =>
    intro b e h
    obtain rfl : e = 0 := by simpa using h
    rfl
  | succ t ih =>
    intro b e h
    have h2 : e / 2 < 2 ^ t := by rw [Nat.pow_succ] at h; omega
    have h3 : (b * b % m) ^ (e / 2) % m = b ^ (2 * (e / 2)) % m := by
      rw [← Nat.pow_mod, Nat.pow_mul]; congr 2; rw [Nat.pow_two]
    unfold pm
    rw [ih _ _ h2, h3]
    split
    · rw [Nat.mul_mod_mod, ← Nat.pow_succ']
      congr 2; omega
    · congr 2; omega

/-- A map of the numbers below n into themselves that never meets one twice meets all. -/
theorem onto_of_inj : ∀ (n : Nat) (f : Nat → Nat), (∀ i, i < n → f i < n) → (∀ i j, i < n → j < n → f i = f j → i = j) → ∀ y, y < n → ∃ i, i < n ∧ f i = y := by
  intro n
  induction n with
  | zero => intro f _ _ y hy; omega
  | succ n ih =>
    intro f h1 h2 y hy
    have hA := h1 n (by omega)
    have key := ih (fun i => if f i = n then f n else f i)
      (fun i hi => by
        show (if f i = n then f n else f i) < n
        have a1 := h1 i (by omega)
        by_cases e : f i = n
        · rw [if_pos e]
          have : f n ≠ n := fun e2 => by have := h2 i n (by omega) (by omega) (by rw [e, e2]); omega
          omega
        · rw [if_neg e]; omega)
      (fun i j hi hj e => by
        replace e : (if f i = n then f n else f i) = (if f j = n then f n else f j) := e
        by_cases e1 : f i = n
        · by_cases e2 : f j = n
          · exact h2 i j (by omega) (by omega) (by rw [e1, e2])
          · rw [if_pos e1, if_neg e2] at e
            have := h2 n j (by omega) (by omega) e
            omega
        · by_cases e2 : f j = n
          · rw [if_neg e1, if_pos e2] at e
            have := h2 i n (by omega) (by omega) e
            omega
          · rw [if_neg e1, if_neg e2] at e
            exact h2 i j (by omega) (by omega) e)
    by_cases c1 : y = f n
    · exact ⟨n, by omega, c1.symm⟩
    · by_cases c2 : y = n
      · obtain ⟨i, hi, he⟩ := key (f n) (by omega)
        replace he : (if f i = n then f n else f i) = f n := he
        by_cases e : f i = n
        · exact ⟨i, by omega, by rw [e, c2]⟩
        · rw [if_neg e] at he
          have := h2 i n (by omega) (by omega) he
          omega
      · obtain ⟨i, hi, he⟩ := key y (by omega)
        replace he : (if f i = n then f n else f i) = y := he
        by_cases e : f i = n
        · rw [if_pos e] at he; exact absurd he.symm c1
        · rw [if_neg e] at he; exact ⟨i, by omega, he⟩

/-- A prime: what divides it is 1 or itself. -/
structure Pr (q : Nat) : Prop where
  one : 1 < q
  dvd : ∀ d, d ∣ q → d = 1 ∨ d = q
/-- The product of a list. -/
def prodL : List Nat → Nat
  | [] => 1
  | q :: r => q * prodL r
theorem coprime_of {q k : Nat} (h : Pr q) (hk : ¬ q ∣ k) : Nat.gcd k q = 1 := by
  rcases h.dvd (Nat.gcd k q) (Nat.gcd_dvd_right k q) with h1 | h1
  · exact h1
  · exact absurd (by rw [← h1]; exact Nat.gcd_dvd_left k q) hk
theorem coprime_prod {k : Nat} : ∀ l : List Nat, (∀ q, q ∈ l → Nat.gcd k q = 1) → Nat.gcd k (prodL l) = 1
  | [], _ => Nat.gcd_one_right k
  | q :: r, h => Nat.Coprime.mul_right (h q (by simp)) (coprime_prod r fun x hx => h x (by simp [hx]))
theorem prime_factor {k : Nat} (l : List Nat) (hl : ∀ q, q ∈ l → Pr q) (hk : k ∣ prodL l) (h1 : 1 < k) : ∃ q, q ∈ l ∧ q ∣ k := by
  refine Classical.byContradiction fun hn => ?_
  have h2 := coprime_prod (k := k) l fun q hq => coprime_of (hl q hq) fun hd => hn ⟨q, hq, hd⟩
  have h3 : k ∣ Nat.gcd k (prodL l) := Nat.dvd_gcd (Nat.dvd_refl k) hk
  rw [h2] at h3
  have := Nat.le_of_dvd (by omega) h3
  omega
/-- Exponents at which a power of g is 1: what is left by one another, too. -/
theorem ord_gcd {p g : Nat} (hp : 1 < p) : ∀ a b, g ^ a % p = 1 → g ^ b % p = 1 → g ^ Nat.gcd a b % p = 1 := by
  intro a
  induction a using Nat.strongRecOn with
  | _ a ih =>
    intro b ha hb
    rcases Nat.eq_zero_or_pos a with h0 | h0
    · subst h0; rw [Nat.gcd_zero_left]; exact hb
    · rw [Nat.gcd_rec]
      refine ih (b % a) (Nat.mod_lt _ h0) a ?_ ha
      have h1 : b = a * (b / a) + b % a := (Nat.div_add_mod b a).symm
      rw [h1, Nat.pow_add, Nat.pow_mul, Nat.mul_mod, Nat.pow_mod, ha, Nat.one_pow, Nat.mod_eq_of_lt hp, Nat.one_mul, Nat.mod_mod] at hb
      exact hb
/-- The certificate: g's powers are all numbers from 1 to p - 1. -/
theorem powers_all {p g : Nat} {l : List Nat} (hp : 1 < p) (hl : ∀ q, q ∈ l → Pr q) (hN : prodL l = p - 1) (h1 : g ^ (p - 1) % p = 1) (hq : ∀ q, q ∈ l → g ^ ((p - 1) / q) % p ≠ 1) :
    ∀ x, 0 < x → x < p → ∃ k, g ^ k % p = x := by
  have ginv : ∀ i, i ≤ p - 1 → g ^ i % p * g ^ (p - 1 - i) % p = 1 := fun i hi => by
    rw [Nat.mod_mul_mod, ← Nat.pow_add, show i + (p - 1 - i) = p - 1 by omega, h1]
  have gpos : ∀ i, i ≤ p - 1 → 0 < g ^ i % p := fun i hi => by
    rcases Nat.eq_zero_or_pos (g ^ i % p) with h | h
    · have := ginv i hi
      rw [h, Nat.zero_mul, Nat.zero_mod] at this
      omega
    · exact h
  have inj : ∀ i j, i < p - 1 → j < p - 1 → i < j → g ^ i % p = g ^ j % p → False := fun i j hi hj hij he => by
    have hd : g ^ (j - i) % p = 1 := by
      have e1 := ginv i (by omega)
      rw [he, Nat.mod_mul_mod, ← Nat.pow_add, show j + (p - 1 - i) = (p - 1) + (j - i) by omega, Nat.pow_add, Nat.mul_mod, h1, Nat.one_mul, Nat.mod_mod] at e1
      exact e1
    have he2 := ord_gcd hp (j - i) (p - 1) hd h1
    obtain ⟨t, ht⟩ := Nat.gcd_dvd_right (j - i) (p - 1)
    have hle : Nat.gcd (j - i) (p - 1) ≤ j - i := Nat.gcd_le_left _ (by omega)
    generalize Nat.gcd (j - i) (p - 1) = e at *
    have he0 : 0 < e := by
      rcases Nat.eq_zero_or_pos e with h | h
      · rw [h, Nat.zero_mul] at ht; omega
      · exact h
    have ht1 : 1 < t := by
      refine Nat.lt_of_not_le fun h => ?_
      have : e * t ≤ e * 1 := Nat.mul_le_mul_left _ h
      omega
    obtain ⟨q, hql, s, hs⟩ := prime_factor l hl (k := t) (by rw [hN, ht]; exact Nat.dvd_mul_left _ _) ht1
    refine hq q hql ?_
    have hq0 : 0 < q := by have := (hl q hql).one; omega
    have e3 : (p - 1) / q = e * s := by
      rw [ht, hs, Nat.mul_left_comm, Nat.mul_div_cancel_left _ hq0]
    rw [e3, Nat.pow_mul, Nat.pow_mod, he2, Nat.one_pow, Nat.mod_eq_of_lt hp]
  intro x hx0 hxp
  obtain ⟨i, _, hi⟩ := onto_of_inj (p - 1) (fun i => g ^ i % p - 1)
    (fun i hi => by have := Nat.mod_lt (g ^ i) (show 0 < p by omega); have := gpos i (by omega); show g ^ i % p - 1 < p - 1; omega)
    (fun i j hi hj e => by
      replace e : g ^ i % p - 1 = g ^ j % p - 1 := e
      have := gpos i (by omega)
      have := gpos j (by omega)
      have e' : g ^ i % p = g ^ j % p := by omega
      rcases Nat.lt_trichotomy i j with h | h | h
      · exact (inj i j hi hj h e').elim
      · exact h
      · exact (inj j i hj hi h e'.symm).elim) (x - 1) (by omega)
  replace hi : g ^ i % p - 1 = x - 1 := hi
  refine ⟨i, ?_⟩
  rcases Nat.eq_zero_or_pos (g ^ i % p) with h | h
  · -- then x = 1, and the power of 0 would be 1
    obtain rfl : x = 1 := by omega
    exfalso
    have h2 : (g ^ i) ^ (p - 1) % p = 0 := by
      rw [Nat.pow_mod, h, Nat.zero_pow (by omega), Nat.zero_mod]
    rw [← Nat.pow_mul, Nat.mul_comm, Nat.pow_mul, Nat.pow_mod, h1, Nat.one_pow, Nat.mod_eq_of_lt hp] at h2
    omega
  · omega
/-- What a certificate gives. -/
structure Fer (p : Nat) : Prop where
  one : 1 < p
  all : ∀ x, 0 < x → x < p → x ^ (p - 1) % p = 1
theorem Fer.pr {p : Nat} (h : Fer p) : Pr p := by
  refine ⟨h.one, fun d hd => ?_⟩
  have h1 := h.one
  have hd0 : 0 < d := Nat.pos_of_dvd_of_pos hd (by omega)
  have hdp := Nat.le_of_dvd (by omega) hd
  rcases Nat.lt_or_ge d p with h2 | h2
  · left
    have h3 := h.all d hd0 h2
    have h4 : d ∣ d ^ (p - 1) % p := (Nat.dvd_mod_iff hd).2 (by
      rw [show p - 1 = (p - 2) + 1 by omega, Nat.pow_succ]; exact Nat.dvd_mul_left _ _)
    rw [h3] at h4
    exact Nat.dvd_one.1 h4
  · right; omega
theorem Fer.full {p : Nat} (h : Fer p) {x : Nat} (hx : x < p) : x ^ p % p = x := by
  have h1 := h.one
  rcases Nat.eq_zero_or_pos x with h0 | h0
  · subst h0; rw [Nat.zero_pow (by omega), Nat.zero_mod]
  · have := h.all x h0 hx
    have e : x ^ p = x ^ (p - 1) * x := by rw [← Nat.pow_succ]; congr 1; omega
    rw [e, ← Nat.mod_mul_mod, this, Nat.one_mul, Nat.mod_eq_of_lt hx]
/-- The check of a certificate, to be computed. -/
def certOk (p g : Nat) (l : List Nat) : Bool := decide (1 < p) && decide (p < 2 ^ 128) && (prodL l == p - 1) && (pm p 128 g (p - 1) == 1) && l.all (fun q => pm p 128 g ((p - 1) / q) != 1)
theorem Fer.of_cert {p g : Nat} {l : List Nat} (h : certOk p g l = true) (hl : ∀ q, q ∈ l → Pr q) : Fer p := by
  simp only [certOk, Bool.and_eq_true, decide_eq_true_eq, beq_iff_eq, List.all_eq_true, bne_iff_ne] at h
  obtain ⟨⟨⟨⟨h1, h2⟩, h3⟩, h4⟩, h5⟩ := h
  have k1 : g ^ (p - 1) % p = 1 := by rw [← pm_eq p 128 g (p - 1) (by omega)]; exact h4
  refine ⟨h1, fun x hx0 hxp => ?_⟩
  obtain ⟨k, rfl⟩ := powers_all h1 hl h3 k1 (fun q hq => by
    have h6 : (p - 1) / q < 2 ^ 128 := Nat.lt_of_le_of_lt (Nat.div_le_self _ _) (by omega)
    rw [← pm_eq p 128 g _ h6]; exact h5 q hq) x hx0 hxp
  rw [← Nat.pow_mod, ← Nat.pow_mul, Nat.mul_comm, Nat.pow_mul, Nat.pow_mod, k1, Nat.one_pow, Nat.mod_eq_of_lt h1]
/-- Small primes by trying. -/
def tryPr (q : Nat) : Bool := decide (1 < q) && (List.range q).all (fun d => decide (d < 2) || q % d != 0)
theorem Pr.of_try {q : Nat} (h : tryPr q = true) : Pr q := by
  simp only [tryPr, Bool.and_eq_true, decide_eq_true_eq, List.all_eq_true, List.mem_range, Bool.or_eq_true, bne_iff_ne] at h
  refine ⟨h.1, fun d hd => ?_⟩
  have h0 : 0 < d := Nat.pos_of_dvd_of_pos hd (by omega)
  have hle := Nat.le_of_dvd (by omega) hd
  rcases Nat.lt_or_ge d q with h2 | h2
  · rcases h.2 d h2 with h3 | h3
    · left; omega
    · exact absurd (Nat.mod_eq_zero_of_dvd hd) h3
  · right; omega
theorem all_of {l : List Nat} (h : l.all tryPr = true) : ∀ q, q ∈ l → Pr q := fun q hq => .of_try (List.all_eq_true.1 h q hq)
theorem fer_3 : Fer 3 := .of_cert (g := 2) (l := [2]) (by kernel_rfl) (by
  intro q hq
  simp only [List.mem_cons, List.not_mem_nil, or_false] at hq
  rcases hq with rfl
  · exact .of_try (by kernel_rfl))
theorem fer_5 : Fer 5 := .of_cert (g := 2) (l := [2, 2]) (by kernel_rfl) (by
  intro q hq
  simp only [List.mem_cons, List.not_mem_nil, or_false] at hq
  rcases hq with rfl | rfl
  · exact .of_try (by kernel_rfl)
  · exact .of_try (by kernel_rfl))
theorem fer_101 : Fer 101 := .of_cert (g := 2) (l := [2, 2, 5, 5]) (by kernel_rfl) (by
  intro q hq
  simp only [List.mem_cons, List.not_mem_nil, or_false] at hq
  rcases hq with rfl | rfl | rfl | rfl
  · exact .of_try (by kernel_rfl)
  · exact .of_try (by kernel_rfl)
  · exact .of_try (by kernel_rfl)
  · exact .of_try (by kernel_rfl))
theorem fer_65521 : Fer 65521 := .of_cert (g := 17) (l := [2, 2, 2, 2, 3, 3, 5, 7, 13]) (by kernel_rfl) (by
  intro q hq
  simp only [List.mem_cons, List.not_mem_nil, or_false] at hq
  rcases hq with rfl | rfl | rfl | rfl | rfl | rfl | rfl | rfl | rfl
  · exact .of_try (by kernel_rfl)
  · exact .of_try (by kernel_rfl)
  · exact .of_try (by kernel_rfl)
  · exact .of_try (by kernel_rfl)
  · exact .of_try (by kernel_rfl)
  · exact .of_try (by kernel_rfl)
  · exact .of_try (by kernel_rfl)
  · exact .of_try (by kernel_rfl)
  · exact .of_try (by kernel_rfl))
theorem fer_22605091 : Fer 22605091 := .of_cert (g := 11) (l := [2, 3, 5, 23, 181, 181]) (by kernel_rfl) (by
  intro q hq
  simp only [List.mem_cons, List.not_mem_nil, or_false] at hq
  rcases hq with rfl | rfl | rfl | rfl | rfl | rfl
  · exact .of_try (by kernel_rfl)
  · exact .of_try (by kernel_rfl)
  · exact .of_try (by kernel_rfl)
  · exact .of_try (by kernel_rfl)
  · exact .of_try (by kernel_rfl)
  · exact .of_try (by kernel_rfl))
theorem fer_4294967291 : Fer 4294967291 := .of_cert (g := 2) (l := [2, 5, 19, 22605091]) (by kernel_rfl) (by
  intro q hq
  simp only [List.mem_cons, List.not_mem_nil, or_false] at hq
  rcases hq with rfl | rfl | rfl | rfl
  · exact .of_try (by kernel_rfl)
  · exact .of_try (by kernel_rfl)
  · exact .of_try (by kernel_rfl)
  · exact fer_22605091.pr)
theorem fer_1321 : Fer 1321 := .of_cert (g := 13) (l := [2, 2, 2, 3, 5, 11]) (by kernel_rfl) (by
  intro q hq
  simp only [List.mem_cons, List.not_mem_nil, or_false] at hq
  rcases hq with rfl | rfl | rfl | rfl | rfl | rfl
  · exact .of_try (by kernel_rfl)
  · exact .of_try (by kernel_rfl)
  · exact .of_try (by kernel_rfl)
  · exact .of_try (by kernel_rfl)
  · exact .of_try (by kernel_rfl)
  · exact .of_try (by kernel_rfl))
theorem fer_2305843009213693951 : Fer 2305843009213693951 := .of_cert (g := 37) (l := [2, 3, 3, 5, 5, 7, 11, 13, 31, 41, 61, 151, 331, 1321]) (by kernel_rfl) (by
  intro q hq
  simp only [List.mem_cons, List.not_mem_nil, or_false] at hq
  rcases hq with rfl | rfl | rfl | rfl | rfl | rfl | rfl | rfl | rfl | rfl | rfl | rfl | rfl | rfl
  · exact .of_try (by kernel_rfl)
  · exact .of_try (by kernel_rfl)
  · exact .of_try (by kernel_rfl)
  · exact .of_try (by kernel_rfl)
  · exact .of_try (by kernel_rfl)
  · exact .of_try (by kernel_rfl)
  · exact .of_try (by kernel_rfl)
  · exact .of_try (by kernel_rfl)
  · exact .of_try (by kernel_rfl)
  · exact .of_try (by kernel_rfl)
  · exact .of_try (by kernel_rfl)
  · exact .of_try (by kernel_rfl)
  · exact .of_try (by kernel_rfl)
  · exact fer_1321.pr)
theorem fer_547 : Fer 547 := .of_cert (g := 2) (l := [2, 3, 7, 13]) (by kernel_rfl) (by
  intro q hq
  simp only [List.mem_cons, List.not_mem_nil, or_false] at hq
  rcases hq with rfl | rfl | rfl | rfl
  · exact .of_try (by kernel_rfl)
  · exact .of_try (by kernel_rfl)
  · exact .of_try (by kernel_rfl)
  · exact .of_try (by kernel_rfl))
theorem fer_15331 : Fer 15331 := .of_cert (g := 2) (l := [2, 3, 5, 7, 73]) (by kernel_rfl) (by
  intro q hq
  simp only [List.mem_cons, List.not_mem_nil, or_false] at hq
  rcases hq with rfl | rfl | rfl | rfl | rfl
  · exact .of_try (by kernel_rfl)
  · exact .of_try (by kernel_rfl)
  · exact .of_try (by kernel_rfl)
  · exact .of_try (by kernel_rfl)
  · exact .of_try (by kernel_rfl))
theorem fer_2131 : Fer 2131 := .of_cert (g := 2) (l := [2, 3, 5, 71]) (by kernel_rfl) (by
  intro q hq
  simp only [List.mem_cons, List.not_mem_nil, or_false] at hq
  rcases hq with rfl | rfl | rfl | rfl
  · exact .of_try (by kernel_rfl)
  · exact .of_try (by kernel_rfl)
  · exact .of_try (by kernel_rfl)
  · exact .of_try (by kernel_rfl))
theorem fer_1427 : Fer 1427 := .of_cert (g := 2) (l := [2, 23, 31]) (by kernel_rfl) (by
  intro q hq
  simp only [List.mem_cons, List.not_mem_nil, or_false] at hq
  rcases hq with rfl | rfl | rfl
  · exact .of_try (by kernel_rfl)
  · exact .of_try (by kernel_rfl)
  · exact .of_try (by kernel_rfl))
theorem fer_5594472617641 : Fer 5594472617641 := .of_cert (g := 13) (l := [2, 2, 2, 3, 5, 1427, 2131, 15331]) (by kernel_rfl) (by
  intro q hq
  simp only [List.mem_cons, List.not_mem_nil, or_false] at hq
  rcases hq with rfl | rfl | rfl | rfl | rfl | rfl | rfl | rfl
  · exact .of_try (by kernel_rfl)
  · exact .of_try (by kernel_rfl)
  · exact .of_try (by kernel_rfl)
  · exact .of_try (by kernel_rfl)
  · exact .of_try (by kernel_rfl)
  · exact fer_1427.pr
  · exact fer_2131.pr
  · exact fer_15331.pr)
theorem fer_18446744073709551557 : Fer 18446744073709551557 := .of_cert (g := 2) (l := [2, 2, 11, 137, 547, 5594472617641]) (by kernel_rfl) (by
  intro q hq
  simp only [List.mem_cons, List.not_mem_nil, or_false] at hq
  rcases hq with rfl | rfl | rfl | rfl | rfl | rfl
  · exact .of_try (by kernel_rfl)
  · exact .of_try (by kernel_rfl)
  · exact .of_try (by kernel_rfl)
  · exact .of_try (by kernel_rfl)
  · exact fer_547.pr
  · exact fer_5594472617641.pr)
theorem fer_92737 : Fer 92737 := .of_cert (g := 5) (l := [2, 2, 2, 2, 2, 2, 3, 3, 7, 23]) (by kernel_rfl) (by
  intro q hq
  simp only [List.mem_cons, List.not_mem_nil, or_false] at hq
  rcases hq with rfl | rfl | rfl | rfl | rfl | rfl | rfl | rfl | rfl | rfl
  · exact .of_try (by kernel_rfl)
  · exact .of_try (by kernel_rfl)
  · exact .of_try (by kernel_rfl)
  · exact .of_try (by kernel_rfl)
  · exact .of_try (by kernel_rfl)
  · exact .of_try (by kernel_rfl)
  · exact .of_try (by kernel_rfl)
  · exact .of_try (by kernel_rfl)
  · exact .of_try (by kernel_rfl)
  · exact .of_try (by kernel_rfl))
theorem fer_174763 : Fer 174763 := .of_cert (g := 17) (l := [2, 3, 3, 7, 19, 73]) (by kernel_rfl) (by
  intro q hq
  simp only [List.mem_cons, List.not_mem_nil, or_false] at hq
  rcases hq with rfl | rfl | rfl | rfl | rfl | rfl
  · exact .of_try (by kernel_rfl)
  · exact .of_try (by kernel_rfl)
  · exact .of_try (by kernel_rfl)
  · exact .of_try (by kernel_rfl)
  · exact .of_try (by kernel_rfl)
  · exact .of_try (by kernel_rfl))
theorem fer_699053 : Fer 699053 := .of_cert (g := 2) (l := [2, 2, 174763]) (by kernel_rfl) (by
  intro q hq
  simp only [List.mem_cons, List.not_mem_nil, or_false] at hq
  rcases hq with rfl | rfl | rfl
  · exact .of_try (by kernel_rfl)
  · exact .of_try (by kernel_rfl)
  · exact fer_174763.pr)
theorem fer_77158673929 : Fer 77158673929 := .of_cert (g := 11) (l := [2, 2, 2, 3, 3, 3, 7, 73, 699053]) (by kernel_rfl) (by
  intro q hq
  simp only [List.mem_cons, List.not_mem_nil, or_false] at hq
  rcases hq with rfl | rfl | rfl | rfl | rfl | rfl | rfl | rfl | rfl
  · exact .of_try (by kernel_rfl)
  · exact .of_try (by kernel_rfl)
  · exact .of_try (by kernel_rfl)
  · exact .of_try (by kernel_rfl)
  · exact .of_try (by kernel_rfl)
  · exact .of_try (by kernel_rfl)
  · exact .of_try (by kernel_rfl)
  · exact .of_try (by kernel_rfl)
  · exact fer_699053.pr)
theorem fer_5419 : Fer 5419 := .of_cert (g := 3) (l := [2, 3, 3, 7, 43]) (by kernel_rfl) (by
  intro q hq
  simp only [List.mem_cons, List.not_mem_nil, or_false] at hq
  rcases hq with rfl | rfl | rfl | rfl | rfl
  · exact .of_try (by kernel_rfl)
  · exact .of_try (by kernel_rfl)
  · exact .of_try (by kernel_rfl)
  · exact .of_try (by kernel_rfl)
  · exact .of_try (by kernel_rfl))
theorem fer_1289 : Fer 1289 := .of_cert (g := 6) (l := [2, 2, 2, 7, 23]) (by kernel_rfl) (by
  intro q hq
  simp only [List.mem_cons, List.not_mem_nil, or_false] at hq
  rcases hq with rfl | rfl | rfl | rfl | rfl
  · exact .of_try (by kernel_rfl)
  · exact .of_try (by kernel_rfl)
  · exact .of_try (by kernel_rfl)
  · exact .of_try (by kernel_rfl)
  · exact .of_try (by kernel_rfl))
theorem fer_649657 : Fer 649657 := .of_cert (g := 5) (l := [2, 2, 2, 3, 3, 7, 1289]) (by kernel_rfl) (by
  intro q hq
  simp only [List.mem_cons, List.not_mem_nil, or_false] at hq
  rcases hq with rfl | rfl | rfl | rfl | rfl | rfl | rfl
  · exact .of_try (by kernel_rfl)
  · exact .of_try (by kernel_rfl)
  · exact .of_try (by kernel_rfl)
  · exact .of_try (by kernel_rfl)
  · exact .of_try (by kernel_rfl)
  · exact .of_try (by kernel_rfl)
  · exact fer_1289.pr)
theorem fer_170141183460469231731687303715884105727 : Fer 170141183460469231731687303715884105727 := .of_cert (g := 43) (l := [2, 3, 3, 3, 7, 7, 19, 43, 73, 127, 337, 5419, 92737, 649657, 77158673929]) (by kernel_rfl) (by
  intro q hq
  simp only [List.mem_cons, List.not_mem_nil, or_false] at hq
  rcases hq with rfl | rfl | rfl | rfl | rfl | rfl | rfl | rfl | rfl | rfl | rfl | rfl | rfl | rfl | rfl
  · exact .of_try (by kernel_rfl)
  · exact .of_try (by kernel_rfl)
  · exact .of_try (by kernel_rfl)
  · exact .of_try (by kernel_rfl)
  · exact .of_try (by kernel_rfl)
  · exact .of_try (by kernel_rfl)
  · exact .of_try (by kernel_rfl)
  · exact .of_try (by kernel_rfl)
  · exact .of_try (by kernel_rfl)
  · exact .of_try (by kernel_rfl)
  · exact .of_try (by kernel_rfl)
  · exact fer_5419.pr
  · exact fer_92737.pr
  · exact fer_649657.pr
  · exact fer_77158673929.pr)
end Go.Proofs.Ytpojonfopoobpaa
