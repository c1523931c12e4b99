/-
  Plain numbers: digits in a base, the number of bits, numbers of bytes. No program in sight.
-/
import Derived.KernelRfl
namespace Go.Proofs.Ytmbghmjllipbhaa

/-- How many bits n has. -/
def blen (n : Nat) : Nat := if n = 0 then 0 else n.log2 + 1
theorem blen_zero : blen 0 = 0 := rfl
theorem blen_half (n : Nat) (h : n ≠ 0) : blen n = blen (n / 2) + 1 := by
  unfold blen
  rw [if_neg h, Nat.log2_def]
  split
  · rw [if_neg (by omega)]
  · rw [if_pos (by omega)]
theorem blen_le_iff (k : Nat) : ∀ n, blen n ≤ k ↔ n < 2 ^ k := by
  induction k with
  | zero =>
    intro n
    constructor
    · intro h
      by_cases h0 : n = 0
      · simp [h0]
      · rw [blen_half n h0] at h; omega
    · intro h
      have : n = 0 := by simpa using h
      rw [this, blen_zero]; exact Nat.le_refl _
  | succ k ih =>
    intro n
    by_cases h0 : n = 0
    · subst h0
      rw [blen_zero]
      exact ⟨fun _ => Nat.pow_pos (by omega), fun _ => by omega⟩
    · rw [blen_half n h0]
      have := ih (n / 2)
      rw [Nat.pow_succ]
      omega
theorem lt_two_pow_blen (n : Nat) : n < 2 ^ blen n := (blen_le_iff _ n).1 (Nat.le_refl _)
theorem two_pow_le_of_blen {n k : Nat} (h : k < blen n) : 2 ^ k ≤ n := by
  have := blen_le_iff k n
  omega
theorem blen_pos {n : Nat} (h : n ≠ 0) : 0 < blen n := by rw [blen_half n h]; omega
theorem blen_eq {n k : Nat} (h1 : n < 2 ^ (k + 1)) (h2 : 2 ^ k ≤ n) : blen n = k + 1 := by
  have a := blen_le_iff (k + 1) n
  have b := blen_le_iff k n
  omega
theorem blen_mono {a b : Nat} (h : a ≤ b) : blen a ≤ blen b :=
  (blen_le_iff _ a).2 (Nat.lt_of_le_of_lt h (lt_two_pow_blen b))

/-- Digit i of N in the base b. -/
def dg (b N i : Nat) : Nat := N / b ^ i % b
theorem dg_lt {b : Nat} (hb : 0 < b) (N i : Nat) : dg b N i < b := Nat.mod_lt _ hb
theorem mod_succ (b N i : Nat) : N % b ^ (i + 1) = N % b ^ i + b ^ i * dg b N i := Nat.mod_pow_succ
theorem dg_zero (b N : Nat) : dg b N 0 = N % b := by simp [dg]
theorem dg_of_lt {b N i : Nat} (h : N < b ^ i) : dg b N i = 0 := by
  unfold dg; rw [Nat.div_eq_of_lt h, Nat.zero_mod]
theorem dg_of_lt' {b N i n : Nat} (hb : 0 < b) (h : N < b ^ n) (hi : n ≤ i) : dg b N i = 0 :=
  dg_of_lt (Nat.lt_of_lt_of_le h (Nat.pow_le_pow_right hb hi))
theorem dg_div (b N i j : Nat) : dg b (N / b ^ i) j = dg b N (i + j) := by
  unfold dg; rw [Nat.div_div_eq_div_mul, Nat.pow_add]
theorem dg_mod_lt {b N i j : Nat} (_hb : 0 < b) (h : j < i) : dg b (N % b ^ i) j = dg b N j := by
  unfold dg
  obtain ⟨d, rfl⟩ : ∃ d, i = j + 1 + d := ⟨i - j - 1, by omega⟩
  rw [Nat.pow_add b (j + 1) d, Nat.pow_succ b j, Nat.mul_assoc, Nat.mod_mul_right_div_self, Nat.mod_mul_right_mod]
theorem dg_mod_ge {b N i j : Nat} (hb : 0 < b) (h : i ≤ j) : dg b (N % b ^ i) j = 0 :=
  dg_of_lt' hb (Nat.mod_lt _ (Nat.pow_pos hb)) h
theorem dg_ext {b n N M : Nat} (_hb : 0 < b) (hN : N < b ^ n) (hM : M < b ^ n) (h : ∀ i, i < n → dg b N i = dg b M i) : N = M := by
  have key : ∀ k, k ≤ n → N % b ^ k = M % b ^ k := by
    intro k
    induction k with
    | zero => intro _; simp [Nat.mod_one]
    | succ k ih =>
      intro hk
      rw [mod_succ, mod_succ, ih (by omega), h k (by omega)]
  have := key n (Nat.le_refl _)
  rwa [Nat.mod_eq_of_lt hN, Nat.mod_eq_of_lt hM] at this
/-- The number with the n digits f 0, f 1, ... -/
def ofD (b : Nat) (f : Nat → Nat) : Nat → Nat
  | 0 => 0
  | n + 1 => ofD b f n + b ^ n * f n
theorem ofD_congr {b n : Nat} {f g : Nat → Nat} (h : ∀ i, i < n → f i = g i) : ofD b f n = ofD b g n := by
  induction n with
  | zero => rfl
  | succ n ih => simp only [ofD]; rw [ih (fun i hi => h i (by omega)), h n (by omega)]
theorem ofD_lt {b : Nat} (_hb : 0 < b) {f : Nat → Nat} {n : Nat} (h : ∀ i, i < n → f i < b) : ofD b f n < b ^ n := by
  induction n with
  | zero => simp [ofD]
  | succ n ih =>
    simp only [ofD]
    have h1 := ih (fun i hi => h i (by omega))
    have h2 := h n (by omega)
    have h3 : b ^ n * (f n + 1) ≤ b ^ n * b := Nat.mul_le_mul_left _ h2
    rw [Nat.pow_succ]
    rw [Nat.mul_add, Nat.mul_one] at h3
    omega
theorem ofD_dg (b N n : Nat) : ofD b (dg b N) n = N % b ^ n := by
  induction n with
  | zero => simp [ofD, Nat.mod_one]
  | succ n ih => simp only [ofD]; rw [ih, mod_succ]
theorem ofD_dg_of_lt {b N n : Nat} (h : N < b ^ n) : ofD b (dg b N) n = N := by rw [ofD_dg, Nat.mod_eq_of_lt h]
theorem dg_ofD {b : Nat} (hb : 0 < b) {f : Nat → Nat} {n : Nat} (h : ∀ i, i < n → f i < b) : ∀ j, j < n → dg b (ofD b f n) j = f j := by
  induction n with
  | zero => intro j hj; omega
  | succ n ih =>
    intro j hj
    have hlt := ofD_lt hb (f := f) (n := n) (fun i hi => h i (by omega))
    by_cases hjn : j = n
    · subst hjn
      simp only [ofD, dg]
      rw [Nat.add_mul_div_left _ _ (Nat.pow_pos hb), Nat.div_eq_of_lt hlt, Nat.zero_add, Nat.mod_eq_of_lt (h j (by omega))]
    · rw [← ih (fun i hi => h i (by omega)) j (by omega)]
      rw [← dg_mod_lt hb (show j < n by omega)]
      simp only [ofD]
      rw [Nat.add_mul_mod_self_left, Nat.mod_eq_of_lt hlt]
theorem div_split {b : Nat} (_hb : 0 < b) (A j : Nat) : A / b ^ j = A / b ^ (j + 1) * b + dg b A j := by
  have := Nat.div_add_mod (A / b ^ j) b
  unfold dg
  rw [Nat.pow_succ, ← Nat.div_div_eq_div_mul, Nat.mul_comm]
  exact this.symm
theorem lt_of_div_lt {A B c : Nat} (h : A / c < B / c) : A < B := by
  rcases Nat.lt_or_ge A B with h' | h'
  · exact h'
  · exact absurd (Nat.div_le_div_right (c := c) h') (by omega)
theorem cmp_digit {b A B j : Nat} (hb : 0 < b) (h : A / b ^ (j + 1) = B / b ^ (j + 1)) (hne : dg b A j ≠ dg b B j) : decide (dg b A j < dg b B j) = decide (A < B) := by
  have h1 := div_split hb A j
  have h2 := div_split hb B j
  rw [h] at h1
  rw [Bool.eq_iff_iff]; simp only [decide_eq_true_eq]
  constructor
  · intro hl; exact lt_of_div_lt (c := b ^ j) (by omega)
  · intro hl
    rcases Nat.lt_or_ge (dg b A j) (dg b B j) with h' | h'
    · exact h'
    · exact absurd (lt_of_div_lt (A := B) (B := A) (c := b ^ j) (by omega)) (by omega)
theorem eq_digit {b A B j : Nat} (hb : 0 < b) (h : A / b ^ (j + 1) = B / b ^ (j + 1)) (he : dg b A j = dg b B j) : A / b ^ j = B / b ^ j := by
  rw [div_split hb A j, div_split hb B j, h, he]

/-- The number of the bytes f 0, f 1, .., the highest first. -/
def be (f : Nat → Nat) : Nat → Nat
  | 0 => 0
  | n + 1 => be f n * 256 + f n
theorem be_congr {f g : Nat → Nat} {n : Nat} (h : ∀ i, i < n → f i = g i) : be f n = be g n := by
  induction n with
  | zero => rfl
  | succ n ih => simp only [be]; rw [ih (fun i hi => h i (by omega)), h n (by omega)]
theorem be_lt {f : Nat → Nat} {n : Nat} (h : ∀ i, i < n → f i < 256) : be f n < 256 ^ n := by
  induction n with
  | zero => simp [be]
  | succ n ih =>
    have h1 := ih (fun i hi => h i (by omega))
    have h2 := h n (by omega)
    simp only [be]; rw [Nat.pow_succ]; omega
/-- Byte i from below. -/
theorem be_dg {f : Nat → Nat} {n : Nat} (h : ∀ i, i < n → f i < 256) : ∀ i, i < n → dg 256 (be f n) i = f (n - 1 - i) := by
  induction n with
  | zero => intro i hi; omega
  | succ n ih =>
    intro i hi
    have h2 := h n (by omega)
    cases i with
    | zero => rw [dg_zero]; simp only [be]; rw [show n + 1 - 1 - 0 = n from by omega]; omega
    | succ i =>
      have := ih (fun i hi => h i (by omega)) i (by omega)
      have e : be f (n + 1) / 256 ^ 1 = be f n := by simp only [be]; omega
      rw [Nat.add_comm i 1, ← dg_div, e, this]
      congr 1; omega
/-- From the bytes of a number the number. -/
theorem be_of_dg {N n : Nat} (h : N < 256 ^ n) : be (fun i => dg 256 N (n - 1 - i)) n = N := by
  refine dg_ext (b := 256) (by omega) (be_lt fun i _ => dg_lt (by omega) _ _) h fun i hi => ?_
  rw [be_dg (fun i _ => dg_lt (by omega) _ _) i hi]
  congr 1; omega
theorem be_zero_ahead {f : Nat → Nat} {k : Nat} (h : ∀ i, i < k → f i = 0) : ∀ n, be f (k + n) = be (fun i => f (k + i)) n := by
  intro n
  induction n with
  | zero =>
    induction k with
    | zero => rfl
    | succ k ih => simp only [be, Nat.add_zero] at *; rw [ih (fun i hi => h i (by omega)), h k (by omega)]
  | succ n ih => rw [← Nat.add_assoc]; simp only [be]; rw [ih]
theorem be_eq_zero {f : Nat → Nat} {n : Nat} : be f n = 0 ↔ ∀ i, i < n → f i = 0 := by
  induction n with
  | zero => simp [be]
  | succ n ih =>
    simp only [be]
    constructor
    · intro h i hi
      by_cases e : i = n
      · subst e; omega
      · exact ih.1 (by omega) i (by omega)
    · intro h
      have := ih.2 fun i hi => h i (by omega)
      have := h n (by omega)
      omega

/-- How many digits of 16 bits N has. -/
def nd (N : Nat) : Nat := (blen N + 15) / 16
theorem pow16 (n : Nat) : (65536 : Nat) ^ n = 2 ^ (16 * n) := by
  rw [show (65536 : Nat) = 2 ^ 16 from rfl, ← Nat.pow_mul]
theorem nd_le_iff (n N : Nat) : nd N ≤ n ↔ N < 65536 ^ n := by
  rw [pow16, ← blen_le_iff]; unfold nd; omega
theorem lt_pow_nd (N : Nat) : N < 65536 ^ nd N := (nd_le_iff _ N).1 (Nat.le_refl _)
theorem nd_zero : nd 0 = 0 := rfl
theorem nd_pos {N : Nat} (h : N ≠ 0) : 0 < nd N := by have := blen_pos h; unfold nd; omega
theorem nd_eq_zero {N : Nat} : nd N = 0 ↔ N = 0 := by
  constructor
  · intro h
    by_cases e : N = 0
    · exact e
    · have := nd_pos e; omega
  · rintro rfl; rfl
theorem nd_mono {a b : Nat} (h : a ≤ b) : nd a ≤ nd b := by have := blen_mono h; unfold nd; omega
theorem dg_top {N n : Nat} (h : nd N = n + 1) : dg 65536 N n ≠ 0 := by
  intro h0
  have h1 : N < 65536 ^ (n + 1) := by rw [← h]; exact lt_pow_nd N
  have h2 : ¬ N < 65536 ^ n := by rw [← nd_le_iff]; omega
  have := mod_succ 65536 N n
  rw [h0, Nat.mod_eq_of_lt h1, Nat.mul_zero, Nat.add_zero] at this
  have := Nat.mod_lt N (show 0 < 65536 ^ n from Nat.pow_pos (by omega))
  omega
/-- The digits end where the highest that is not 0 stands. -/
theorem nd_of_top {N n : Nat} (h : N < 65536 ^ (n + 1)) (ht : dg 65536 N n ≠ 0) : nd N = n + 1 := by
  have a := (nd_le_iff (n + 1) N).2 h
  have b : ¬ nd N ≤ n := fun h' => ht (dg_of_lt ((nd_le_iff n N).1 h'))
  omega
theorem nd_of_no_top {N n : Nat} (h : N < 65536 ^ (n + 1)) (ht : dg 65536 N n = 0) : N < 65536 ^ n := by
  have := mod_succ 65536 N n
  rw [Nat.mod_eq_of_lt h, ht, Nat.mul_zero, Nat.add_zero] at this
  have := Nat.mod_lt N (show 0 < 65536 ^ n from Nat.pow_pos (by omega))
  omega
theorem blen_mul_pow {a : Nat} (h : a ≠ 0) (k : Nat) : blen (a * 2 ^ k) = blen a + k := by
  have h1 := two_pow_le_of_blen (n := a) (k := blen a - 1) (by have := blen_pos h; omega)
  have h2 := lt_two_pow_blen a
  have hp := blen_pos h
  obtain ⟨m, hm⟩ : ∃ m, blen a = m + 1 := ⟨blen a - 1, by omega⟩
  rw [hm] at h1 h2 ⊢
  rw [show m + 1 + k = (m + k) + 1 by omega]
  refine blen_eq ?_ ?_
  · rw [show m + k + 1 = m + 1 + k by omega, Nat.pow_add]
    exact Nat.mul_lt_mul_of_pos_right h2 (Nat.pow_pos (by omega))
  · rw [Nat.pow_add]
    exact Nat.mul_le_mul_right _ (by simpa using h1)
theorem blen_add_lt {a c k : Nat} (h : a ≠ 0) (hc : c < 2 ^ k) : blen (a * 2 ^ k + c) = blen a + k := by
  have hp := blen_pos h
  have h1 := two_pow_le_of_blen (n := a) (k := blen a - 1) (by omega)
  have h2 := lt_two_pow_blen a
  obtain ⟨m, hm⟩ : ∃ m, blen a = m + 1 := ⟨blen a - 1, by omega⟩
  rw [hm] at h1 h2 ⊢
  rw [show m + 1 + k = (m + k) + 1 by omega]
  refine blen_eq ?_ ?_
  · rw [show m + k + 1 = m + 1 + k by omega, Nat.pow_add]
    have : (a + 1) * 2 ^ k ≤ 2 ^ (m + 1) * 2 ^ k := Nat.mul_le_mul_right _ h2
    rw [Nat.add_mul, Nat.one_mul] at this
    omega
  · rw [Nat.pow_add]
    have : 2 ^ m * 2 ^ k ≤ a * 2 ^ k := Nat.mul_le_mul_right _ (by simpa using h1)
    omega
/-- The number of bits by the highest digit of 16 bits. -/
theorem blen_top {N n : Nat} (h : nd N = n + 1) : blen N = 16 * n + blen (dg 65536 N n) := by
  have hlt : N < 65536 ^ (n + 1) := by rw [← h]; exact lt_pow_nd N
  have ht := dg_top h
  have := mod_succ 65536 N n
  rw [Nat.mod_eq_of_lt hlt] at this
  have hm := Nat.mod_lt N (show 0 < 65536 ^ n from Nat.pow_pos (by omega))
  have e : N = dg 65536 N n * 2 ^ (16 * n) + N % 65536 ^ n := by rw [← pow16, Nat.mul_comm]; omega
  rw [pow16] at hm
  have h2 := blen_add_lt (c := N % 65536 ^ n) (k := 16 * n) ht (by rw [pow16]; exact hm)
  rw [← e] at h2
  omega
/-- A byte of a number by its digit of 16 bits. -/
theorem dg_byte_even (N i : Nat) : dg 256 N (2 * i) = dg 65536 N i % 256 := by
  unfold dg
  rw [Nat.pow_mul]
  show N / 65536 ^ i % 256 = _
  omega
theorem dg_byte_odd (N i : Nat) : dg 256 N (2 * i + 1) = dg 65536 N i / 256 := by
  unfold dg
  rw [Nat.pow_succ, Nat.pow_mul, ← Nat.div_div_eq_div_mul]
  show N / 65536 ^ i / 256 % 256 = _
  omega
theorem dg_byte (N i : Nat) : dg 256 N i = if i % 2 = 1 then dg 65536 N (i / 2) / 256 else dg 65536 N (i / 2) % 256 := by
  split
  · rw [← dg_byte_odd]; congr 1; omega
  · rw [← dg_byte_even]; congr 1; omega

/-- How many bytes N has. -/
def nb (N : Nat) : Nat := (blen N + 7) / 8

theorem dg16_bytes (M j : Nat) : dg 65536 M j = dg 256 M (2 * j) + 256 * dg 256 M (2 * j + 1) := by
  rw [dg_byte_even, dg_byte_odd]; omega
theorem dg_mod (b N i j : Nat) (hb : 0 < b) : dg b (N % b ^ i) j = if j < i then dg b N j else 0 := by
  split
  · exact dg_mod_lt hb ‹_›
  · exact dg_mod_ge hb (by omega)
/-- One byte more from below. -/
theorem dg_next_byte (N k j : Nat) : dg 65536 (N % 256 ^ (k + 1)) j =
    if j = k / 2 then dg 65536 (N % 256 ^ k) j + (if k % 2 = 1 then dg 256 N k * 256 else dg 256 N k) else dg 65536 (N % 256 ^ k) j := by
  rw [dg16_bytes, dg16_bytes, dg_mod _ _ _ _ (by omega), dg_mod _ _ _ _ (by omega), dg_mod _ _ _ _ (by omega), dg_mod _ _ _ _ (by omega)]
  by_cases e : j = k / 2
  · rw [if_pos e]
    by_cases h : k % 2 = 1
    · have e1 : k = 2 * j + 1 := by omega
      subst e1
      rw [if_pos (by omega), if_pos (by omega), if_pos (by omega), if_neg (by omega), if_pos h]; omega
    · have e1 : k = 2 * j := by omega
      subst e1
      rw [if_pos (by omega), if_neg (by omega), if_neg (by omega), if_neg (by omega), if_neg h]; omega
  · rw [if_neg e]
    by_cases h : j < k / 2
    · rw [if_pos (by omega), if_pos (by omega), if_pos (by omega), if_pos (by omega)]
    · rw [if_neg (by omega), if_neg (by omega), if_neg (by omega), if_neg (by omega)]
theorem nd_le_of_bytes {N n : Nat} (h : N < 256 ^ n) : N < 65536 ^ (n / 2 + 1) := by
  refine Nat.lt_of_lt_of_le h ?_
  rw [show (65536 : Nat) = 256 ^ 2 from rfl, ← Nat.pow_mul]
  exact Nat.pow_le_pow_right (by omega) (by omega)
theorem pow8 (n : Nat) : (256 : Nat) ^ n = 2 ^ (8 * n) := by
  rw [show (256 : Nat) = 2 ^ 8 from rfl, ← Nat.pow_mul]
theorem nb_le_iff (n N : Nat) : nb N ≤ n ↔ N < 256 ^ n := by
  rw [pow8, ← blen_le_iff]; unfold nb; omega
theorem lt_pow_nb (N : Nat) : N < 256 ^ nb N := (nb_le_iff _ N).1 (Nat.le_refl _)
theorem nb_zero : nb 0 = 0 := rfl
theorem nb_eq_zero {N : Nat} : nb N = 0 ↔ N = 0 := by
  constructor
  · intro h
    have := lt_pow_nb N
    rw [h] at this
    simpa using this
  · rintro rfl; rfl
/-- Without the zeros ahead the bytes are those that the number has. -/
theorem nb_of_zeros {f : Nat → Nat} {n k : Nat} (hf : ∀ i, i < n → f i < 256) (hk : k ≤ n) (h0 : ∀ i, i < k → f i = 0) (h1 : k < n → f k ≠ 0) : nb (be f n) = n - k := by
  have e : be f n = be (fun i => f (k + i)) (n - k) := by
    have := be_zero_ahead h0 (n - k)
    rwa [show k + (n - k) = n by omega] at this
  have hf' : ∀ i, i < n - k → f (k + i) < 256 := fun i hi => hf _ (by omega)
  have hlt := be_lt hf'
  rw [← e] at hlt
  have h2 := (nb_le_iff (n - k) (be f n)).2 hlt
  rcases Nat.eq_zero_or_pos (n - k) with h3 | h3
  · omega
  · have h4 := be_dg hf' (n - k - 1) (by omega)
    rw [← e, show n - k - 1 - (n - k - 1) = 0 by omega, Nat.add_zero] at h4
    have h5 : ¬ nb (be f n) ≤ n - k - 1 := fun h' => by
      rw [dg_of_lt ((nb_le_iff _ _).1 h')] at h4
      exact h1 (by omega) h4.symm
    omega
/-- One byte more from below, in limbs of 64 bits. -/
theorem limb_next_byte (N k j : Nat) : dg 18446744073709551616 (N % 256 ^ (k + 1)) j =
    if j = k / 8 then dg 18446744073709551616 (N % 256 ^ k) j + dg 256 N k * 2 ^ (8 * (k % 8)) else dg 18446744073709551616 (N % 256 ^ k) j := by
  obtain ⟨q, s, hs, rfl⟩ : ∃ q s, s < 8 ∧ k = 8 * q + s := ⟨k / 8, k % 8, by omega, by omega⟩
  rw [mod_succ, show (8 * q + s) / 8 = q by omega, show (8 * q + s) % 8 = s by omega]
  have hpow : (256 : Nat) ^ (8 * q + s) = 18446744073709551616 ^ q * 256 ^ s := by
    rw [Nat.pow_add, Nat.pow_mul]
  have hr := Nat.mod_lt N (show 0 < 256 ^ (8 * q + s) from Nat.pow_pos (by omega))
  have hd := dg_lt (b := 256) (by omega) N (8 * q + s)
  generalize dg 256 N (8 * q + s) = d at *
  generalize N % 256 ^ (8 * q + s) = r at *
  rw [hpow] at hr ⊢
  have h8 : 256 ^ s * 256 ≤ 18446744073709551616 := by
    rw [← Nat.pow_succ]
    have : (256 : Nat) ^ (s + 1) ≤ 256 ^ 8 := Nat.pow_le_pow_right (by omega) (by omega)
    exact this
  have hW : 0 < 18446744073709551616 ^ q := Nat.pow_pos (by omega)
  have e8 : 2 ^ (8 * s) = 256 ^ s := (pow8 s).symm
  rw [e8]
  have hr' : r / 18446744073709551616 ^ q < 256 ^ s := Nat.div_lt_of_lt_mul hr
  have hsum : r / 18446744073709551616 ^ q + 256 ^ s * d < 256 ^ s * 256 := by
    have : 256 ^ s * (d + 1) ≤ 256 ^ s * 256 := Nat.mul_le_mul_left _ hd
    rw [Nat.mul_add, Nat.mul_one] at this
    omega
  rcases Nat.lt_trichotomy j q with h | h | h
  · rw [if_neg (by omega)]
    obtain ⟨e, rfl⟩ : ∃ e, q = j + 1 + e := ⟨q - j - 1, by omega⟩
    rw [← dg_mod_lt (i := j + 1) (by omega) (Nat.lt_succ_self j), ← dg_mod_lt (N := r) (i := j + 1) (by omega) (Nat.lt_succ_self j)]
    rw [Nat.pow_add, Nat.mul_assoc, Nat.mul_assoc, Nat.add_mul_mod_self_left]
  · subst h
    rw [if_pos rfl]
    unfold dg
    rw [Nat.mul_assoc, Nat.add_mul_div_left _ _ hW, Nat.mod_eq_of_lt (by omega), Nat.mod_eq_of_lt (by omega), Nat.mul_comm d]
  · rw [if_neg (by omega)]
    have hq : r < 18446744073709551616 ^ (q + 1) := by
      rw [Nat.pow_succ]
      exact Nat.lt_of_lt_of_le hr (Nat.mul_le_mul_left _ (by omega))
    have hq2 : r + 18446744073709551616 ^ q * 256 ^ s * d < 18446744073709551616 ^ (q + 1) := by
      have h1 := Nat.div_add_mod r (18446744073709551616 ^ q)
      have h2 := Nat.mod_lt r hW
      have h3 : 18446744073709551616 ^ q * (r / 18446744073709551616 ^ q + 256 ^ s * d + 1) ≤ 18446744073709551616 ^ q * 18446744073709551616 := Nat.mul_le_mul_left _ (by omega)
      rw [Nat.mul_add, Nat.mul_add, Nat.mul_one, ← Nat.mul_assoc] at h3
      rw [Nat.pow_succ]
      omega
    rw [dg_of_lt' (by omega) hq (by omega), dg_of_lt' (by omega) hq2 (by omega)]
/-- Where the lower bits are 0, 'or' is '+'. -/
theorem or_shift {x d s : Nat} (hx : x < 2 ^ s) : x ||| d <<< s = x + d * 2 ^ s := by
  rw [Nat.or_comm, ← Nat.shiftLeft_add_eq_or_of_lt hx, Nat.shiftLeft_eq, Nat.add_comm]
theorem limb_low (N k : Nat) : dg 18446744073709551616 (N % 256 ^ k) (k / 8) < 2 ^ (8 * (k % 8)) := by
  have hr := Nat.mod_lt N (show 0 < 256 ^ k from Nat.pow_pos (by omega))
  generalize N % 256 ^ k = r at *
  have hpow : (256 : Nat) ^ k = 18446744073709551616 ^ (k / 8) * 256 ^ (k % 8) := by
    have : k = 8 * (k / 8) + k % 8 := by omega
    have h2 : (256 : Nat) ^ k = 256 ^ (8 * (k / 8) + k % 8) := by rw [← this]
    rw [h2, Nat.pow_add, Nat.pow_mul]
  rw [hpow] at hr
  have := Nat.div_lt_of_lt_mul hr
  rw [← pow8]
  exact Nat.lt_of_le_of_lt (Nat.mod_le _ _) this
theorem blen_div_pow' (N k : Nat) : blen (N / 2 ^ k) = blen N - k := by
  by_cases h : N / 2 ^ k = 0
  · rw [h, blen_zero]
    have h1 : N < 2 ^ k := by
      rcases Nat.lt_or_ge N (2 ^ k) with h1 | h1
      · exact h1
      · have := Nat.div_pos h1 (Nat.pow_pos (by omega)); omega
    have := (blen_le_iff k N).2 h1
    omega
  · have h1 := blen_add_lt (a := N / 2 ^ k) (c := N % 2 ^ k) (k := k) h (Nat.mod_lt _ (Nat.pow_pos (by omega)))
    rw [Nat.mul_comm, Nat.div_add_mod] at h1
    omega
/-- A digit of a quotient by a number below the base. -/
theorem dg_quot {b N d j : Nat} (hb : 0 < b) (hd : 0 < d) : dg b (N / d) j = ((N / b ^ (j + 1)) % d * b + dg b N j) / d ∧ (N / b ^ j) % d = ((N / b ^ (j + 1)) % d * b + dg b N j) % d := by
  have h1 := div_split hb N j
  have hg := dg_lt hb N j
  have e : dg b (N / d) j = (N / b ^ j) / d % b := by
    unfold dg; rw [Nat.div_div_eq_div_mul, Nat.div_div_eq_div_mul, Nat.mul_comm]
  have h2 := Nat.div_add_mod (N / b ^ (j + 1)) d
  generalize hQ : N / b ^ (j + 1) = Q at *
  generalize dg b N j = g at *
  have hr := Nat.mod_lt Q hd
  have h3 : Q * b + g = d * (Q / d * b) + (Q % d * b + g) := by
    have h4 : Q * b = (d * (Q / d) + Q % d) * b := by rw [h2]
    rw [h4, Nat.add_mul, Nat.mul_assoc]; omega
  have h5 : (Q % d * b + g) / d < b := by
    rw [Nat.div_lt_iff_lt_mul hd]
    have : (Q % d + 1) * b ≤ d * b := Nat.mul_le_mul_right _ hr
    rw [Nat.add_mul, Nat.one_mul] at this
    rw [Nat.mul_comm b d]; omega
  constructor
  · rw [e, h1, h3, Nat.mul_add_div hd, Nat.add_comm, Nat.add_mul_mod_self_right, Nat.mod_eq_of_lt h5]
  · rw [h1, h3, Nat.mul_add_mod]
/-- One digit of a product, laid onto what stands there. -/
theorem mul_step {b : Nat} (hb : 0 < b) {E E0 m c t : Nat} (h : E / b ^ m = E0 / b ^ m + c) :
    (∀ j, j < m → dg b (E + t * b ^ m) j = dg b E j) ∧ dg b (E + t * b ^ m) m = (c + dg b E0 m + t) % b ∧ (E + t * b ^ m) / b ^ (m + 1) = E0 / b ^ (m + 1) + (c + dg b E0 m + t) / b := by
  have hp : 0 < b ^ m := Nat.pow_pos hb
  have h1 : (E + t * b ^ m) / b ^ m = E0 / b ^ (m + 1) * b + (c + dg b E0 m + t) := by
    rw [Nat.add_mul_div_right _ _ hp, h, div_split hb E0 m]; omega
  refine ⟨fun j hj => ?_, ?_, ?_⟩
  · rw [← dg_mod_lt hb hj, Nat.add_mul_mod_self_right, dg_mod_lt hb hj]
  · unfold dg at h1 ⊢
    rw [h1, Nat.add_comm, Nat.add_mul_mod_self_right]
  · rw [Nat.pow_succ, ← Nat.div_div_eq_div_mul, h1, Nat.add_comm, Nat.add_mul_div_right _ _ hb, Nat.add_comm]
    rw [← Nat.pow_succ]
end Go.Proofs.Ytmbghmjllipbhaa
