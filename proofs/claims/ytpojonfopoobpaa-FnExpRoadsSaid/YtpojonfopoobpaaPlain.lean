/-
  Plain numbers: digits in a base, the number of bits, numbers of bytes. No program in sight.
  Plain numbers: a digit of a quotient, found by trying (the way of math/bits.Div). No program in sight.
  Plain numbers: the steps of a division digit by digit. No program in sight.
  The plain law of extendedGCD: what holds at the head of its loop.
-/
import Derived.KernelRfl
namespace Go.Proofs.Ytpojonfopoobpaa

/-- How many bits n has. -/
def blen (n : Nat) : Nat := if n = 0 then 0 else n.log2 + 1
theorem blen_zero : blen 0 = 0 := rfl
theorem blen_half (n : Nat) (h : n ≠ 0) : blen n = blen (n / 2) + 1 := by
  unfold blen
  rw [if_neg h, Nat.log2_def]
  split
  · rw [if_neg (by omega)]
  · rw [if_pos (by omega)]
theorem blen_le_iff (k : Nat) : ∀ n, blen n ≤ k ↔ n < 2 ^ k := by
  induction k with
  | zero =>
    intro n
    constructor
    · intro h
      by_cases h0 : n = 0
      · simp [h0]
      · rw [blen_half n h0] at h; omega
    · intro h
      have : n = 0 := by simpa using h
      rw [this, blen_zero]; exact Nat.le_refl _
  | succ k ih =>
    intro n
    by_cases h0 : n = 0
    · subst h0
      rw [blen_zero]
      exact ⟨fun _ => Nat.pow_pos (by omega), fun _ => by omega⟩
    · rw [blen_half n h0]
      have := ih (n / 2)
      rw [Nat.pow_succ]
      omega
theorem lt_two_pow_blen (n : Nat) : n < 2 ^ blen n := (blen_le_iff _ n).1 (Nat.le_refl _)
theorem two_pow_le_of_blen {n k : Nat} (h : k < blen n) : 2 ^ k ≤ n := by
  have := blen_le_iff k n
  omega
theorem blen_pos {n : Nat} (h : n ≠ 0) : 0 < blen n := by rw [blen_half n h]; omega
theorem blen_eq {n k : Nat} (h1 : n < 2 ^ (k + 1)) (h2 : 2 ^ k ≤ n) : blen n = k + 1 := by
  have a := blen_le_iff (k + 1) n
  have b := blen_le_iff k n
  omega
theorem blen_mono {a b : Nat} (h : a ≤ b) : blen a ≤ blen b :=
  (blen_le_iff _ a).2 (Nat.lt_of_le_of_lt h (lt_two_pow_blen b))

/-- Digit i of N in the base b. -/
def dg (b N i : Nat) : Nat := N / b ^ i % b
theorem dg_lt {b : Nat} (hb : 0 < b) (N i : Nat) : dg b N i < b := Nat.mod_lt _ hb
theorem mod_succ (b N i : Nat) : N % b ^ (i + 1) = N % b ^ i + b ^ i * dg b N i := Nat.mod_pow_succ
theorem dg_zero (b N : Nat) : dg b N 0 = N % b := by simp [dg]
theorem dg_of_lt {b N i : Nat} (h : N < b ^ i) : dg b N i = 0 := by
  unfold dg; rw [Nat.div_eq_of_lt h, Nat.zero_mod]
theorem dg_of_lt' {b N i n : Nat} (hb : 0 < b) (h : N < b ^ n) (hi : n ≤ i) : dg b N i = 0 :=
  dg_of_lt (Nat.lt_of_lt_of_le h (Nat.pow_le_pow_right hb hi))
theorem dg_div (b N i j : Nat) : dg b (N / b ^ i) j = dg b N (i + j) := by
  unfold dg; rw [Nat.div_div_eq_div_mul, Nat.pow_add]
theorem dg_mod_lt {b N i j : Nat} (_hb : 0 < b) (h : j < i) : dg b (N % b ^ i) j = dg b N j := by
  unfold dg
  obtain ⟨d, rfl⟩ : ∃ d, i = j + 1 + d := ⟨i - j - 1, by omega⟩
  rw [Nat.pow_add b (j + 1) d, Nat.pow_succ b j, Nat.mul_assoc, Nat.mod_mul_right_div_self, Nat.mod_mul_right_mod]
theorem dg_mod_ge {b N i j : Nat} (hb : 0 < b) (h : i ≤ j) : dg b (N % b ^ i) j = 0 :=
  dg_of_lt' hb (Nat.mod_lt _ (Nat.pow_pos hb)) h
theorem dg_ext {b n N M : Nat} (_hb : 0 < b) (hN : N < b ^ n) (hM : M < b ^ n) (h : ∀ i, i < n → dg b N i = dg b M i) : N = M := by
  have key : ∀ k, k ≤ n → N % b ^ k = M % b ^ k := by
    intro k
    induction k with
    | zero => intro _; simp [Nat.mod_one]
    | succ k ih =>
      intro hk
      rw [mod_succ, mod_succ, ih (by omega), h k (by omega)]
  have := key n (Nat.le_refl _)
  rwa [Nat.mod_eq_of_lt hN, Nat.mod_eq_of_lt hM] at this
/-- The number with the n digits f 0, f 1, ... -/
def ofD (b : Nat) (f : Nat → Nat) : Nat → Nat
  | 0 => 0
  | n + 1 => ofD b f n + b ^ n * f n
theorem ofD_congr {b n : Nat} {f g : Nat → Nat} (h : ∀ i, i < n → f i = g i) : ofD b f n = ofD b g n := by
  induction n with
  | zero => rfl
  | succ n ih => simp only [ofD]; rw [ih (fun i hi => h i (by omega)), h n (by omega)]
theorem ofD_lt {b : Nat} (_hb : 0 < b) {f : Nat → Nat} {n : Nat} (h : ∀ i, i < n → f i < b) : ofD b f n < b ^ n := by
  induction n with
  | zero => simp [ofD]
  | succ n ih =>
    simp only [ofD]
    have h1 := ih (fun i hi => h i (by omega))
    have h2 := h n (by omega)
    have h3 : b ^ n * (f n + 1) ≤ b ^ n * b := Nat.mul_le_mul_left _ h2
    rw [Nat.pow_succ]
    rw [Nat.mul_add, Nat.mul_one] at h3
    omega
theorem ofD_dg (b N n : Nat) : ofD b (dg b N) n = N % b ^ n := by
  induction n with
  | zero => simp [ofD, Nat.mod_one]
  | succ n ih => simp only [ofD]; rw [ih, mod_succ]
theorem ofD_dg_of_lt {b N n : Nat} (h : N < b ^ n) : ofD b (dg b N) n = N := by rw [ofD_dg, Nat.mod_eq_of_lt h]
theorem dg_ofD {b : Nat} (hb : 0 < b) {f : Nat → Nat} {n : Nat} (h : ∀ i, i < n → f i < b) : ∀ j, j < n → dg b (ofD b f n) j = f j := by
  induction n with
  | zero => intro j hj; omega
  | succ n ih =>
    intro j hj
    have hlt := ofD_lt hb (f := f) (n := n) (fun i hi => h i (by omega))
    by_cases hjn : j = n
    · subst hjn
      simp only [ofD, dg]
      rw [Nat.add_mul_div_left _ _ (Nat.pow_pos hb), Nat.div_eq_of_lt hlt, Nat.zero_add, Nat.mod_eq_of_lt (h j (by omega))]
    · rw [← ih (fun i hi => h i (by omega)) j (by omega)]
      rw [← dg_mod_lt hb (show j < n by omega)]
      simp only [ofD]
      rw [Nat.add_mul_mod_self_left, Nat.mod_eq_of_lt hlt]
theorem div_split {b : Nat} (_hb : 0 < b) (A j : Nat) : A / b ^ j = A / b ^ (j + 1) * b + dg b A j := by
  have := Nat.div_add_mod (A / b ^ j) b
  unfold dg
  rw [Nat.pow_succ, ← Nat.div_div_eq_div_mul, Nat.mul_comm]
  exact this.symm
theorem lt_of_div_lt {A B c : Nat} (h : A / c < B / c) : A < B := by
  rcases Nat.lt_or_ge A B with h' | h'
  · exact h'
  · exact absurd (Nat.div_le_div_right (c := c) h') (by omega)
theorem cmp_digit {b A B j : Nat} (hb : 0 < b) (h : A / b ^ (j + 1) = B / b ^ (j + 1)) (hne : dg b A j ≠ dg b B j) : decide (dg b A j < dg b B j) = decide (A < B) := by
  have h1 := div_split hb A j
  have h2 := div_split hb B j
  rw [h] at h1
  rw [Bool.eq_iff_iff]; simp only [decide_eq_true_eq]
  constructor
  · intro hl; exact lt_of_div_lt (c := b ^ j) (by omega)
  · intro hl
    rcases Nat.lt_or_ge (dg b A j) (dg b B j) with h' | h'
    · exact h'
    · exact absurd (lt_of_div_lt (A := B) (B := A) (c := b ^ j) (by omega)) (by omega)
theorem eq_digit {b A B j : Nat} (hb : 0 < b) (h : A / b ^ (j + 1) = B / b ^ (j + 1)) (he : dg b A j = dg b B j) : A / b ^ j = B / b ^ j := by
  rw [div_split hb A j, div_split hb B j, h, he]

/-- The number of the bytes f 0, f 1, .., the highest first. -/
def be (f : Nat → Nat) : Nat → Nat
  | 0 => 0
  | n + 1 => be f n * 256 + f n
theorem be_congr {f g : Nat → Nat} {n : Nat} (h : ∀ i, i < n → f i = g i) : be f n = be g n := by
  induction n with
  | zero => rfl
  | succ n ih => simp only [be]; rw [ih (fun i hi => h i (by omega)), h n (by omega)]
theorem be_lt {f : Nat → Nat} {n : Nat} (h : ∀ i, i < n → f i < 256) : be f n < 256 ^ n := by
  induction n with
  | zero => simp [be]
  | succ n ih =>
    have h1 := ih (fun i hi => h i (by omega))
    have h2 := h n (by omega)
    simp only [be]; rw [Nat.pow_succ]; omega
/-- Byte i from below. -/
theorem be_dg {f : Nat → Nat} {n : Nat} (h : ∀ i, i < n → f i < 256) : ∀ i, i < n → dg 256 (be f n) i = f (n - 1 - i) := by
  induction n with
  | zero => intro i hi; omega
  | succ n ih =>
    intro i hi
    have h2 := h n (by omega)
    cases i with
    | zero => rw [dg_zero]; simp only [be]; rw [show n + 1 - 1 - 0 = n from by omega]; omega
    | succ i =>
      have := ih (fun i hi => h i (by omega)) i (by omega)
      have e : be f (n + 1) / 256 ^ 1 = be f n := by simp only [be]; omega
      rw [Nat.add_comm i 1, ← dg_div, e, this]
      congr 1; omega
/-- From the bytes of a number the number. -/
theorem be_of_dg {N n : Nat} (h : N < 256 ^ n) : be (fun i => dg 256 N (n - 1 - i)) n = N := by
  refine dg_ext (b := 256) (by omega) (be_lt fun i _ => dg_lt (by omega) _ _) h fun i hi => ?_
  rw [be_dg (fun i _ => dg_lt (by omega) _ _) i hi]
  congr 1; omega
theorem be_zero_ahead {f : Nat → Nat} {k : Nat} (h : ∀ i, i < k → f i = 0) : ∀ n, be f (k + n) = be (fun i => f (k + i)) n := by
  intro n
  induction n with
  | zero =>
    induction k with
    | zero => rfl
    | succ k ih => simp only [be, Nat.add_zero] at *; rw [ih (fun i hi => h i (by omega)), h k (by omega)]
  | succ n ih => rw [← Nat.add_assoc]; simp only [be]; rw [ih]
theorem be_eq_zero {f : Nat → Nat} {n : Nat} : be f n = 0 ↔ ∀ i, i < n → f i = 0 := by
  induction n with
  | zero => simp [be]
  | succ n ih =>
    simp only [be]
    constructor
    · intro h i hi
      by_cases e : i = n
      · subst e; omega
      · exact ih.1 (by omega) i (by omega)
    · intro h
      have := ih.2 fun i hi => h i (by omega)
      have := h n (by omega)
      omega

/-- How many digits of 16 bits N has. -/
def nd (N : Nat) : Nat := (blen N + 15) / 16
theorem pow16 (n : Nat) : (65536 : Nat) ^ n = 2 ^ (16 * n) := by
  rw [show (65536 : Nat) = 2 ^ 16 from rfl, ← Nat.pow_mul]
theorem nd_le_iff (n N : Nat) : nd N ≤ n ↔ N < 65536 ^ n := by
  rw [pow16, ← blen_le_iff]; unfold nd; omega
theorem lt_pow_nd (N : Nat) : N < 65536 ^ nd N := (nd_le_iff _ N).1 (Nat.le_refl _)
theorem nd_zero : nd 0 = 0 := rfl
theorem nd_pos {N : Nat} (h : N ≠ 0) : 0 < nd N := by have := blen_pos h; unfold nd; omega
theorem nd_eq_zero {N : Nat} : nd N = 0 ↔ N = 0 := by
  constructor
  · intro h
    by_cases e : N = 0
    · exact e
    · have := nd_pos e; omega
  · rintro rfl; rfl
theorem nd_mono {a b : Nat} (h : a ≤ b) : nd a ≤ nd b := by have := blen_mono h; unfold nd; omega
theorem dg_top {N n : Nat} (h : nd N = n + 1) : dg 65536 N n ≠ 0 := by
  intro h0
  have h1 : N < 65536 ^ (n + 1) := by rw [← h]; exact lt_pow_nd N
  have h2 : ¬ N < 65536 ^ n := by rw [← nd_le_iff]; omega
  have := mod_succ 65536 N n
  rw [h0, Nat.mod_eq_of_lt h1, Nat.mul_zero, Nat.add_zero] at this
  have := Nat.mod_lt N (show 0 < 65536 ^ n from Nat.pow_pos (by omega))
  omega
/-- The digits end where the highest that is not 0 stands. -/
theorem nd_of_top {N n : Nat} (h : N < 65536 ^ (n + 1)) (ht : dg 65536 N n ≠ 0) : nd N = n + 1 := by
  have a := (nd_le_iff (n + 1) N).2 h
  have b : ¬ nd N ≤ n := fun h' => ht (dg_of_lt ((nd_le_iff n N).1 h'))
  omega
theorem nd_of_no_top {N n : Nat} (h : N < 65536 ^ (n + 1)) (ht : dg 65536 N n = 0) : N < 65536 ^ n := by
  have := mod_succ 65536 N n
  rw [Nat.mod_eq_of_lt h, ht, Nat.mul_zero, Nat.add_zero] at this
  have := Nat.mod_lt N (show 0 < 65536 ^ n from Nat.pow_pos (by omega))
  omega
theorem blen_mul_pow {a : Nat} (h : a ≠ 0) (k : Nat) : blen (a * 2 ^ k) = blen a + k := by
  have h1 := two_pow_le_of_blen (n := a) (k := blen a - 1) (by have := blen_pos h; omega)
  have h2 := lt_two_pow_blen a
  have hp := blen_pos h
  obtain ⟨m, hm⟩ : ∃ m, blen a = m + 1 := ⟨blen a - 1, by omega⟩
  rw [hm] at h1 h2 ⊢
  rw [show m + 1 + k = (m + k) + 1 by omega]
  refine blen_eq ?_ ?_
  · rw [show m + k + 1 = m + 1 + k by omega, Nat.pow_add]
    exact Nat.mul_lt_mul_of_pos_right h2 (Nat.pow_pos (by omega))
  · rw [Nat.pow_add]
    exact Nat.mul_le_mul_right _ (by simpa using h1)
theorem blen_add_lt {a c k : Nat} (h : a ≠ 0) (hc : c < 2 ^ k) : blen (a * 2 ^ k + c) = blen a + k := by
  have hp := blen_pos h
  have h1 := two_pow_le_of_blen (n := a) (k := blen a - 1) (by omega)
  have h2 := lt_two_pow_blen a
  obtain ⟨m, hm⟩ : ∃ m, blen a = m + 1 := ⟨blen a - 1, by omega⟩
  rw [hm] at h1 h2 ⊢
  rw [show m + 1 + k = (m + k) + 1 by omega]
  refine blen_eq ?_ ?_
  · rw [show m + k + 1 = m + 1 + k by omega, Nat.pow_add]
    have : (a + 1) * 2 ^ k ≤ 2 ^ (m + 1) * 2 ^ k := Nat.mul_le_mul_right _ h2
    rw [Nat.add_mul, Nat.one_mul] at this
    omega
  · rw [Nat.pow_add]
    have : 2 ^ m * 2 ^ k ≤ a * 2 ^ k := Nat.mul_le_mul_right _ (by simpa using h1)
    omega
/-- The number of bits by the highest digit of 16 bits. -/
theorem blen_top {N n : Nat} (h : nd N = n + 1) : blen N = 16 * n + blen (dg 65536 N n) := by
  have hlt : N < 65536 ^ (n + 1) := by rw [← h]; exact lt_pow_nd N
  have ht := dg_top h
  have := mod_succ 65536 N n
  rw [Nat.mod_eq_of_lt hlt] at this
  have hm := Nat.mod_lt N (show 0 < 65536 ^ n from Nat.pow_pos (by omega))
  have e : N = dg 65536 N n * 2 ^ (16 * n) + N % 65536 ^ n := by rw [← pow16, Nat.mul_comm]; omega
  rw [pow16] at hm
  have h2 := blen_add_lt (c := N % 65536 ^ n) (k := 16 * n) ht (by rw [pow16]; exact hm)
  rw [← e] at h2
  omega
/-- A byte of a number by its digit of 16 bits. -/
theorem dg_byte_even (N i : Nat) : dg 256 N (2 * i) = dg 65536 N i % 256 := by
  unfold dg
  rw [Nat.pow_mul]
  show N / 65536 ^ i % 256 = _
  omega
theorem dg_byte_odd (N i : Nat) : dg 256 N (2 * i + 1) = dg 65536 N i / 256 := by
  unfold dg
  rw [Nat.pow_succ, Nat.pow_mul, ← Nat.div_div_eq_div_mul]
  show N / 65536 ^ i / 256 % 256 = _
  omega
theorem dg_byte (N i : Nat) : dg 256 N i = if i % 2 = 1 then dg 65536 N (i / 2) / 256 else dg 65536 N (i / 2) % 256 := by
  split
  · rw [← dg_byte_odd]; congr 1; omega
  · rw [← dg_byte_even]; congr 1; omega

/-- How many bytes N has. -/
def nb (N : Nat) : Nat := (blen N + 7) / 8

theorem dg16_bytes (M j : Nat) : dg 65536 M j = dg 256 M (2 * j) + 256 * dg 256 M (2 * j + 1) := by
  rw [dg_byte_even, dg_byte_odd]; omega
theorem dg_mod (b N i j : Nat) (hb : 0 < b) : dg b (N % b ^ i) j = if j < i then dg b N j else 0 := by
  split
  · exact dg_mod_lt hb ‹_›
  · exact dg_mod_ge hb (by omega)
/-- One byte more from below. -/
theorem dg_next_byte (N k j : Nat) : dg 65536 (N % 256 ^ (k + 1)) j =
    if j = k / 2 then dg 65536 (N % 256 ^ k) j + (if k % 2 = 1 then dg 256 N k * 256 else dg 256 N k) else dg 65536 (N % 256 ^ k) j := by
  rw [dg16_bytes, dg16_bytes, dg_mod _ _ _ _ (by omega), dg_mod _ _ _ _ (by omega), dg_mod _ _ _ _ (by omega), dg_mod _ _ _ _ (by omega)]
  by_cases e : j = k / 2
  · rw [if_pos e]
    by_cases h : k % 2 = 1
    · have e1 : k = 2 * j + 1 := by omega
      subst e1
      rw [if_pos (by omega), if_pos (by omega), if_pos (by omega), if_neg (by omega), if_pos h]; omega
    · have e1 : k = 2 * j := by omega
      subst e1
      rw [if_pos (by omega), if_neg (by omega), if_neg (by omega), if_neg (by omega), if_neg h]; omega
  · rw [if_neg e]
    by_cases h : j < k / 2
    · rw [if_pos (by omega), if_pos (by omega), if_pos (by omega), if_pos (by omega)]
    · rw [if_neg (by omega), if_neg (by omega), if_neg (by omega), if_neg (by omega)]
theorem nd_le_of_bytes {N n : Nat} (h : N < 256 ^ n) : N < 65536 ^ (n / 2 + 1) := by
  refine Nat.lt_of_lt_of_le h ?_
  rw [show (65536 : Nat) = 256 ^ 2 from rfl, ← Nat.pow_mul]
  exact Nat.pow_le_pow_right (by omega) (by omega)
theorem pow8 (n : Nat) : (256 : Nat) ^ n = 2 ^ (8 * n) := by
  rw [show (256 : Nat) = 2 ^ 8 from rfl, ← Nat.pow_mul]
theorem nb_le_iff (n N : Nat) : nb N ≤ n ↔ N < 256 ^ n := by
  rw [pow8, ← blen_le_iff]; unfold nb; omega
theorem lt_pow_nb (N : Nat) : N < 256 ^ nb N := (nb_le_iff _ N).1 (Nat.le_refl _)
theorem nb_zero : nb 0 = 0 := rfl
theorem nb_eq_zero {N : Nat} : nb N = 0 ↔ N = 0 := by
  constructor
  · intro h
    have := lt_pow_nb N
    rw [h] at this
    simpa using this
  · rintro rfl; rfl
/-- Without the zeros ahead the bytes are those that the number has. -/
theorem nb_of_zeros {f : Nat → Nat} {n k : Nat} (hf : ∀ i, i < n → f i < 256) (hk : k ≤ n) (h0 : ∀ i, i < k → f i = 0) (h1 : k < n → f k ≠ 0) : nb (be f n) = n - k := by
  have e : be f n = be (fun i => f (k + i)) (n - k) := by
    have := be_zero_ahead h0 (n - k)
    rwa [show k + (n - k) = n by omega] at this
  have hf' : ∀ i, i < n - k → f (k + i) < 256 := fun i hi => hf _ (by omega)
  have hlt := be_lt hf'
  rw [← e] at hlt
  have h2 := (nb_le_iff (n - k) (be f n)).2 hlt
  rcases Nat.eq_zero_or_pos (n - k) with h3 | h3
  · omega
  · have h4 := be_dg hf' (n - k - 1) (by omega)
    rw [← e, show n - k - 1 - (n - k - 1) = 0 by omega, Nat.add_zero] at h4
    have h5 : ¬ nb (be f n) ≤ n - k - 1 := fun h' => by
      rw [dg_of_lt ((nb_le_iff _ _).1 h')] at h4
      exact h1 (by omega) h4.symm
    omega
/-- One byte more from below, in limbs of 64 bits. -/
theorem limb_next_byte (N k j : Nat) : dg 18446744073709551616 (N % 256 ^ (k + 1)) j =
    if j = k / 8 then dg 18446744073709551616 (N % 256 ^ k) j + dg 256 N k * 2 ^ (8 * (k % 8)) else dg 18446744073709551616 (N % 256 ^ k) j := by
  obtain ⟨q, s, hs, rfl⟩ : ∃ q s, s < 8 ∧ k = 8 * q + s := ⟨k / 8, k % 8, by omega, by omega⟩
  rw [mod_succ, show (8 * q + s) / 8 = q by omega, show (8 * q + s) % 8 = s by omega]
  have hpow : (256 : Nat) ^ (8 * q + s) = 18446744073709551616 ^ q * 256 ^ s := by
    rw [Nat.pow_add, Nat.pow_mul]
  have hr := Nat.mod_lt N (show 0 < 256 ^ (8 * q + s) from Nat.pow_pos (by omega))
  have hd := dg_lt (b := 256) (by omega) N (8 * q + s)
  generalize dg 256 N (8 * q + s) = d at *
  generalize N % 256 ^ (8 * q + s) = r at *
  rw [hpow] at hr ⊢
  have h8 : 256 ^ s * 256 ≤ 18446744073709551616 := by
    rw [← Nat.pow_succ]
    have : (256 : Nat) ^ (s + 1) ≤ 256 ^ 8 := Nat.pow_le_pow_right (by omega) (by omega)
    exact this
  have hW : 0 < 18446744073709551616 ^ q := Nat.pow_pos (by omega)
  have e8 : 2 ^ (8 * s) = 256 ^ s := (pow8 s).symm
  rw [e8]
  have hr' : r / 18446744073709551616 ^ q < 256 ^ s := Nat.div_lt_of_lt_mul hr
  have hsum : r / 18446744073709551616 ^ q + 256 ^ s * d < 256 ^ s * 256 := by
    have : 256 ^ s * (d + 1) ≤ 256 ^ s * 256 := Nat.mul_le_mul_left _ hd
    rw [Nat.mul_add, Nat.mul_one] at this
    omega
  rcases Nat.lt_trichotomy j q with h | h | h
  · rw [if_neg (by omega)]
    obtain ⟨e, rfl⟩ : ∃ e, q = j + 1 + e := ⟨q - j - 1, by omega⟩
    rw [← dg_mod_lt (i := j + 1) (by omega) (Nat.lt_succ_self j), ← dg_mod_lt (N := r) (i := j + 1) (by omega) (Nat.lt_succ_self j)]
    rw [Nat.pow_add, Nat.mul_assoc, Nat.mul_assoc, Nat.add_mul_mod_self_left]
  · subst h
    rw [if_pos rfl]
    unfold dg
    rw [Nat.mul_assoc, Nat.add_mul_div_left _ _ hW, Nat.mod_eq_of_lt (by omega), Nat.mod_eq_of_lt (by omega), Nat.mul_comm d]
  · rw [if_neg (by omega)]
    have hq : r < 18446744073709551616 ^ (q + 1) := by
      rw [Nat.pow_succ]
      exact Nat.lt_of_lt_of_le hr (Nat.mul_le_mul_left _ (by omega))
    have hq2 : r + 18446744073709551616 ^ q * 256 ^ s * d < 18446744073709551616 ^ (q + 1) := by
      have h1 := Nat.div_add_mod r (18446744073709551616 ^ q)
      have h2 := Nat.mod_lt r hW
      have h3 : 18446744073709551616 ^ q * (r / 18446744073709551616 ^ q + 256 ^ s * d + 1) ≤ 18446744073709551616 ^ q * 18446744073709551616 := Nat.mul_le_mul_left _ (by omega)
      rw [Nat.mul_add, Nat.mul_add, Nat.mul_one, ← Nat.mul_assoc] at h3
      rw [Nat.pow_succ]
      omega
    rw [dg_of_lt' (by omega) hq (by omega), dg_of_lt' (by omega) hq2 (by omega)]
/-- Where the lower bits are 0, 'or' is '+'. -/
theorem or_shift {x d s : Nat} (hx : x < 2 ^ s) : x ||| d <<< s = x + d * 2 ^ s := by
  rw [Nat.or_comm, ← Nat.shiftLeft_add_eq_or_of_lt hx, Nat.shiftLeft_eq, Nat.add_comm]
theorem limb_low (N k : Nat) : dg 18446744073709551616 (N % 256 ^ k) (k / 8) < 2 ^ (8 * (k % 8)) := by
  have hr := Nat.mod_lt N (show 0 < 256 ^ k from Nat.pow_pos (by omega))
  generalize N % 256 ^ k = r at *
  have hpow : (256 : Nat) ^ k = 18446744073709551616 ^ (k / 8) * 256 ^ (k % 8) := by
    have : k = 8 * (k / 8) + k % 8 := by omega
    have h2 : (256 : Nat) ^ k = 256 ^ (8 * (k / 8) + k % 8) := by rw [← this]
    rw [h2, Nat.pow_add, Nat.pow_mul]
  rw [hpow] at hr
  have := Nat.div_lt_of_lt_mul hr
  rw [← pow8]
  exact Nat.lt_of_le_of_lt (Nat.mod_le _ _) this
theorem blen_div_pow' (N k : Nat) : blen (N / 2 ^ k) = blen N - k := by
  by_cases h : N / 2 ^ k = 0
  · rw [h, blen_zero]
    have h1 : N < 2 ^ k := by
      rcases Nat.lt_or_ge N (2 ^ k) with h1 | h1
      · exact h1
      · have := Nat.div_pos h1 (Nat.pow_pos (by omega)); omega
    have := (blen_le_iff k N).2 h1
    omega
  · have h1 := blen_add_lt (a := N / 2 ^ k) (c := N % 2 ^ k) (k := k) h (Nat.mod_lt _ (Nat.pow_pos (by omega)))
    rw [Nat.mul_comm, Nat.div_add_mod] at h1
    omega
/-- A digit of a quotient by a number below the base. -/
theorem dg_quot {b N d j : Nat} (hb : 0 < b) (hd : 0 < d) : dg b (N / d) j = ((N / b ^ (j + 1)) % d * b + dg b N j) / d ∧ (N / b ^ j) % d = ((N / b ^ (j + 1)) % d * b + dg b N j) % d := by
  have h1 := div_split hb N j
  have hg := dg_lt hb N j
  have e : dg b (N / d) j = (N / b ^ j) / d % b := by
    unfold dg; rw [Nat.div_div_eq_div_mul, Nat.div_div_eq_div_mul, Nat.mul_comm]
  have h2 := Nat.div_add_mod (N / b ^ (j + 1)) d
  generalize hQ : N / b ^ (j + 1) = Q at *
  generalize dg b N j = g at *
  have hr := Nat.mod_lt Q hd
  have h3 : Q * b + g = d * (Q / d * b) + (Q % d * b + g) := by
    have h4 : Q * b = (d * (Q / d) + Q % d) * b := by rw [h2]
    rw [h4, Nat.add_mul, Nat.mul_assoc]; omega
  have h5 : (Q % d * b + g) / d < b := by
    rw [Nat.div_lt_iff_lt_mul hd]
    have : (Q % d + 1) * b ≤ d * b := Nat.mul_le_mul_right _ hr
    rw [Nat.add_mul, Nat.one_mul] at this
    rw [Nat.mul_comm b d]; omega
  constructor
  · rw [e, h1, h3, Nat.mul_add_div hd, Nat.add_comm, Nat.add_mul_mod_self_right, Nat.mod_eq_of_lt h5]
  · rw [h1, h3, Nat.mul_add_mod]
/-- One digit of a product, laid onto what stands there. -/
theorem mul_step {b : Nat} (hb : 0 < b) {E E0 m c t : Nat} (h : E / b ^ m = E0 / b ^ m + c) :
    (∀ j, j < m → dg b (E + t * b ^ m) j = dg b E j) ∧ dg b (E + t * b ^ m) m = (c + dg b E0 m + t) % b ∧ (E + t * b ^ m) / b ^ (m + 1) = E0 / b ^ (m + 1) + (c + dg b E0 m + t) / b := by
  have hp : 0 < b ^ m := Nat.pow_pos hb
  have h1 : (E + t * b ^ m) / b ^ m = E0 / b ^ (m + 1) * b + (c + dg b E0 m + t) := by
    rw [Nat.add_mul_div_right _ _ hp, h, div_split hb E0 m]; omega
  refine ⟨fun j hj => ?_, ?_, ?_⟩
  · rw [← dg_mod_lt hb hj, Nat.add_mul_mod_self_right, dg_mod_lt hb hj]
  · unfold dg at h1 ⊢
    rw [h1, Nat.add_comm, Nat.add_mul_mod_self_right]
  · rw [Nat.pow_succ, ← Nat.div_div_eq_div_mul, h1, Nat.add_comm, Nat.add_mul_div_right _ _ hb, Nat.add_comm]
    rw [← Nat.pow_succ]
end Go.Proofs.Ytpojonfopoobpaa

namespace Go.Proofs.Ytpojonfopoobpaa
/- A digit of the quotient of two digits of 32 bits by one number of two such digits. -/
def kq (Y u u1 : Nat) : Nat := (u * 4294967296 + u1) / Y
def kr (Y u u1 : Nat) : Nat := (u * 4294967296 + u1) % Y
theorem kq_lt {Y u u1 : Nat} (hu : u < Y) (h1 : u1 < 4294967296) : kq Y u u1 < 4294967296 := by
  unfold kq
  rw [Nat.div_lt_iff_lt_mul (by omega)]
  have : (u + 1) * 4294967296 ≤ Y * 4294967296 := Nat.mul_le_mul_right _ hu
  omega
theorem kq_le_iff {Y u u1 v1 v0 q r : Nat} (hY : Y = v1 * 4294967296 + v0) (hp : 0 < Y) (hq : q * v1 + r = u) : q ≤ kq Y u u1 ↔ q * v0 ≤ 4294967296 * r + u1 := by
  unfold kq
  rw [Nat.le_div_iff_mul_le hp, hY, Nat.mul_add, ← Nat.mul_assoc, ← hq]
  generalize q * v1 = a
  generalize q * v0 = c
  omega
theorem k_start {Y u u1 v1 v0 : Nat} (hY : Y = v1 * 4294967296 + v0) (h1 : 2147483648 ≤ v1) (h0 : v0 < 4294967296) (hu : u < Y) (hu1 : u1 < 4294967296) :
    kq Y u u1 ≤ u / v1 ∧ u / v1 ≤ 4294967297 := by
  have hp : 0 < Y := by omega
  have hdm := Nat.div_add_mod u v1
  have hm := Nat.mod_lt u (show 0 < v1 by omega)
  have e : u / v1 * v1 + u % v1 = u := by rw [Nat.mul_comm]; exact hdm
  constructor
  · -- otherwise (u / v1 + 1) would fit
    rcases Nat.lt_or_ge (u / v1) (kq Y u u1) with h | h
    · exfalso
      have h2 : (u / v1 + 1) * Y ≤ u * 4294967296 + u1 := by
        have h3 : u / v1 + 1 ≤ (u * 4294967296 + u1) / Y := h
        exact (Nat.le_div_iff_mul_le hp).1 h3
      have h4 : (u / v1 + 1) * Y = (u / v1 * v1 + v1) * 4294967296 + (u / v1 + 1) * v0 := by
        rw [hY, Nat.mul_add, ← Nat.mul_assoc, Nat.add_mul (u / v1) 1 v1, Nat.one_mul]
      omega
    · exact h
  · have h5 : u / v1 < 4294967298 := by
      rw [Nat.div_lt_iff_lt_mul (by omega)]
      omega
    omega
theorem k_again {Y u u1 v1 v0 q r : Nat} (hY : Y = v1 * 4294967296 + v0) (hp : 0 < Y) (hu : u < Y) (hu1 : u1 < 4294967296) (hq : q * v1 + r = u) (hk : kq Y u u1 ≤ q)
    (ht : 4294967296 ≤ q ∨ 4294967296 * r + u1 < q * v0) : 1 ≤ q ∧ kq Y u u1 ≤ q - 1 ∧ (q - 1) * v1 + (r + v1) = u := by
  have h1 := kq_lt hu hu1
  have h2 := kq_le_iff (u1 := u1) hY hp hq
  have h3 : kq Y u u1 < q := by
    rcases ht with h | h
    · omega
    · have : ¬ q ≤ kq Y u u1 := fun h' => by have := h2.1 h'; omega
      omega
  refine ⟨by omega, by omega, ?_⟩
  obtain ⟨p, rfl⟩ : ∃ p, q = p + 1 := ⟨q - 1, by omega⟩
  rw [Nat.add_sub_cancel, ← hq, Nat.add_mul]; omega
theorem k_done {Y u u1 v1 v0 q r : Nat} (hY : Y = v1 * 4294967296 + v0) (hp : 0 < Y) (hq : q * v1 + r = u) (hk : kq Y u u1 ≤ q)
    (ht : q * v0 ≤ 4294967296 * r + u1) : q = kq Y u u1 := by
  have h2 := kq_le_iff (u1 := u1) hY hp hq
  have := h2.2 ht
  omega
theorem k_break {Y u u1 v1 v0 q r : Nat} (hY : Y = v1 * 4294967296 + v0) (h0 : v0 < 4294967296) (hp : 0 < Y) (hq : q * v1 + r = u) (hk : kq Y u u1 ≤ q) (hb : q ≤ 4294967296) (hr : 4294967296 ≤ r) : q = kq Y u u1 := by
  refine k_done hY hp hq hk ?_
  have h1 : q * v0 ≤ 4294967296 * 4294967296 := Nat.mul_le_mul hb (by omega)
  have h2 : 4294967296 * 4294967296 ≤ 4294967296 * r := Nat.mul_le_mul_left _ hr
  omega
theorem k_rest {Y u u1 : Nat} (hp : 0 < Y) (hY : Y ≤ 18446744073709551616) : ((u * 4294967296 % 18446744073709551616 + u1) % 18446744073709551616 + (18446744073709551616 - kq Y u u1 * Y % 18446744073709551616 % 18446744073709551616)) % 18446744073709551616 = kr Y u u1 := by
  have h1 := Nat.div_add_mod (u * 4294967296 + u1) Y
  have h2 := Nat.mod_lt (u * 4294967296 + u1) hp
  have e1 : kq Y u u1 = (u * 4294967296 + u1) / Y := rfl
  have e2 : kr Y u u1 = (u * 4294967296 + u1) % Y := rfl
  rw [← e1, ← e2] at h1
  rw [← e2] at h2
  obtain ⟨C, hC⟩ : ∃ C, C = kq Y u u1 * Y := ⟨_, rfl⟩
  rw [Nat.mul_comm, ← hC] at h1
  rw [← hC]
  omega
/-- The whole division. -/
theorem k_all {Y u u1 u0 : Nat} (hp : 0 < Y) : (u * 18446744073709551616 + (u1 * 4294967296 + u0)) / Y = kq Y u u1 * 4294967296 + kq Y (kr Y u u1) u0 ∧ (u * 18446744073709551616 + (u1 * 4294967296 + u0)) % Y = kr Y (kr Y u u1) u0 := by
  have h1 := Nat.div_add_mod (u * 4294967296 + u1) Y
  have h2 := Nat.div_add_mod ((u * 4294967296 + u1) % Y * 4294967296 + u0) Y
  have h3 := Nat.mod_lt ((u * 4294967296 + u1) % Y * 4294967296 + u0) hp
  have e1 : kq Y u u1 = (u * 4294967296 + u1) / Y := rfl
  have e2 : kr Y u u1 = (u * 4294967296 + u1) % Y := rfl
  rw [← e1, ← e2] at h1
  rw [← e2] at h2 h3
  have e3 : kq Y (kr Y u u1) u0 = (kr Y u u1 * 4294967296 + u0) / Y := rfl
  have e4 : kr Y (kr Y u u1) u0 = (kr Y u u1 * 4294967296 + u0) % Y := rfl
  rw [← e3, ← e4] at h2
  rw [← e4] at h3
  have e : u * 18446744073709551616 + (u1 * 4294967296 + u0) = Y * (kq Y u u1 * 4294967296 + kq Y (kr Y u u1) u0) + kr Y (kr Y u u1) u0 := by
    rw [Nat.mul_add, ← Nat.mul_assoc]
    obtain ⟨a, ha⟩ : ∃ a, a = Y * kq Y u u1 := ⟨_, rfl⟩
    obtain ⟨c, hc⟩ : ∃ c, c = Y * kq Y (kr Y u u1) u0 := ⟨_, rfl⟩
    rw [← ha] at h1 ⊢
    rw [← hc] at h2 ⊢
    omega
  rw [e, Nat.mul_add_div hp, Nat.mul_add_mod, Nat.div_eq_of_lt h3, Nat.mod_eq_of_lt h3, Nat.add_zero]
  exact ⟨rfl, rfl⟩

/-- Both numbers shifted so that the divisor has its highest bit. -/
theorem div_prep {hi lo y : Nat} (hy : y < 18446744073709551616) (hlo : lo < 18446744073709551616) (h : hi < y) :
    ∃ Y H ul : Nat, Y = y * 2 ^ (64 - blen y) ∧ 9223372036854775808 ≤ Y ∧ Y < 18446744073709551616 ∧ H = hi * 2 ^ (64 - blen y) ∧ H + lo / 2 ^ (64 - (64 - blen y)) < Y ∧ lo / 2 ^ (64 - (64 - blen y)) < 2 ^ (64 - blen y) ∧
      ul = lo * 2 ^ (64 - blen y) % 18446744073709551616 ∧ (hi * 18446744073709551616 + lo) * 2 ^ (64 - blen y) = (H + lo / 2 ^ (64 - (64 - blen y))) * 18446744073709551616 + ul := by
  have hb : blen y ≤ 64 := (blen_le_iff 64 y).2 hy
  have hb0 : 0 < blen y := blen_pos (by omega)
  have h1 := lt_two_pow_blen y
  have h2 := two_pow_le_of_blen (n := y) (k := blen y - 1) (by omega)
  obtain ⟨s, hs⟩ : ∃ s, s = 64 - blen y := ⟨_, rfl⟩
  rw [← hs]
  have hp : 0 < 2 ^ s := Nat.pow_pos (by omega)
  have hW : (18446744073709551616 : Nat) = 2 ^ (64 - s) * 2 ^ s := by rw [← Nat.pow_add, show 64 - s + s = 64 by omega]
  have hW2 : (9223372036854775808 : Nat) = 2 ^ (blen y - 1) * 2 ^ s := by rw [← Nat.pow_add, show blen y - 1 + s = 63 by omega]
  rw [show blen y = 64 - s by omega] at h1
  have hp2 : 0 < 2 ^ (64 - s) := Nat.pow_pos (by omega)
  have hlow : lo / 2 ^ (64 - s) < 2 ^ s := by
    rw [Nat.div_lt_iff_lt_mul hp2, Nat.mul_comm, ← hW]; exact hlo
  refine ⟨_, _, _, rfl, ?_, ?_, rfl, ?_, hlow, rfl, ?_⟩
  · rw [hW2]; exact Nat.mul_le_mul_right _ h2
  · rw [hW]; exact Nat.mul_lt_mul_of_pos_right h1 hp
  · have : (hi + 1) * 2 ^ s ≤ y * 2 ^ s := Nat.mul_le_mul_right _ h
    rw [Nat.add_mul, Nat.one_mul] at this
    omega
  · have h3 : lo * 2 ^ s / 18446744073709551616 = lo / 2 ^ (64 - s) := by
      rw [hW, Nat.mul_div_mul_right _ _ hp]
    have h4 := Nat.div_add_mod (lo * 2 ^ s) 18446744073709551616
    rw [h3] at h4
    rw [Nat.add_mul, Nat.add_mul, Nat.mul_right_comm hi]
    omega
theorem div_back {hi lo y s Q R : Nat} (h1 : (hi * 18446744073709551616 + lo) * 2 ^ s / (y * 2 ^ s) = Q) (h2 : (hi * 18446744073709551616 + lo) * 2 ^ s % (y * 2 ^ s) = R) :
    Q = (hi * 18446744073709551616 + lo) / y ∧ R / 2 ^ s = (hi * 18446744073709551616 + lo) % y := by
  have hp : 0 < 2 ^ s := Nat.pow_pos (by omega)
  rw [Nat.mul_div_mul_right _ _ hp] at h1
  rw [Nat.mul_mod_mul_right] at h2
  exact ⟨h1.symm, by rw [← h2, Nat.mul_div_cancel _ hp]⟩
end Go.Proofs.Ytpojonfopoobpaa

namespace Go.Proofs.Ytpojonfopoobpaa

/-- Two digits above: the number without what is below them. -/
theorem two_digits {b R m : Nat} (hb : 0 < b) (h : R < b ^ (m + 2)) : R / b ^ m = dg b R (m + 1) * b + dg b R m := by
  rw [div_split hb R m, div_split hb R (m + 1)]
  rw [Nat.div_eq_of_lt (show R < b ^ (m + 1 + 1) from h), Nat.zero_mul, Nat.zero_add]
/-- What is tried first is not too small. -/
theorem q_est {b R V n t : Nat} (hb : 0 < b) (hV : V < b ^ (n + 1)) (ht : dg b V n ≠ 0) (hR : R < V * b ^ (t + 1)) :
    R / (V * b ^ t) ≤ (dg b R (t + (n + 1)) * b + dg b R (t + n)) / dg b V n := by
  have h1 : R < b ^ (t + n + 2) := by
    refine Nat.lt_of_lt_of_le hR ?_
    rw [show t + n + 2 = (n + 1) + (t + 1) by omega, Nat.pow_add b (n + 1) (t + 1)]
    exact Nat.mul_le_mul_right _ (Nat.le_of_lt hV)
  have h2 := two_digits hb h1
  rw [show t + n + 1 = t + (n + 1) by omega] at h2
  rw [← h2, Nat.div_div_eq_div_mul]
  have h3 : b ^ (t + n) * dg b V n ≤ V * b ^ t := by
    have h4 := mod_succ b V n
    rw [Nat.mod_eq_of_lt hV] at h4
    rw [Nat.pow_add, Nat.mul_assoc, Nat.mul_comm V]
    exact Nat.mul_le_mul_left _ (Nat.le_trans (Nat.le_add_left _ _) (Nat.le_of_eq h4.symm))
  exact Nat.div_le_div_left h3 (Nat.mul_pos (Nat.pow_pos hb) (by omega))
theorem q_lt {b R V t : Nat} (hR : R < V * b ^ (t + 1)) : R / (V * b ^ t) < b := by
  rcases Nat.eq_zero_or_pos (V * b ^ t) with h | h
  · rw [Nat.pow_succ, ← Nat.mul_assoc, h, Nat.zero_mul] at hR; omega
  · rw [Nat.div_lt_iff_lt_mul h, Nat.mul_comm b, Nat.mul_assoc, ← Nat.pow_succ]; exact hR
/-- A digit of the quotient, by what is left above. -/
theorem q_digit (b U V t : Nat) : dg b (U / V) t = (U % (V * b ^ (t + 1))) / (V * b ^ t) := by
  unfold dg
  rw [Nat.div_div_eq_div_mul, Nat.pow_succ, ← Nat.mul_assoc, Nat.mod_mul_right_div_self]
theorem q_next (b U V t : Nat) : U % (V * b ^ (t + 1)) % (V * b ^ t) = U % (V * b ^ t) := by
  rw [Nat.pow_succ, ← Nat.mul_assoc, Nat.mod_mul_right_mod]
theorem q_rest {R D x : Nat} (hx : x = R / D) : R - x * D = R % D := by
  have := Nat.div_add_mod R D
  rw [hx, Nat.mul_comm]; omega
/-- Where the tried digit fits. -/
theorem q_fits {R D x : Nat} (hD : 0 < D) (h1 : R / D ≤ x) (h2 : x * D ≤ R) : x = R / D := by
  have := (Nat.le_div_iff_mul_le hD).2 h2
  omega

/- Taking away: one step. Z: the digits that are done; o: what is owed. -/
theorem take_step {b Z U V q o x o' m n : Nat} (hb : 0 < b) (hZ : Z < b ^ (m + n)) (hinv : Z + q * (V % b ^ n) * b ^ m = U % b ^ (m + n) + o * b ^ (m + n))
    (hx : x < b) (hs : x + q * dg b V n + o = dg b U (m + n) + o' * b) :
    Z + x * b ^ (m + n) < b ^ (m + (n + 1)) ∧ (Z + x * b ^ (m + n)) + q * (V % b ^ (n + 1)) * b ^ m = U % b ^ (m + (n + 1)) + o' * b ^ (m + (n + 1)) ∧
    (∀ j, j < m + n → dg b (Z + x * b ^ (m + n)) j = dg b Z j) ∧ dg b (Z + x * b ^ (m + n)) (m + n) = x := by
  have hp : 0 < b ^ (m + n) := Nat.pow_pos hb
  have e1 : b ^ (m + (n + 1)) = b ^ (m + n) * b := by rw [← Nat.add_assoc, Nat.pow_succ]
  refine ⟨?_, ?_, fun j hj => ?_, ?_⟩
  · rw [e1]
    have : b ^ (m + n) * (x + 1) ≤ b ^ (m + n) * b := Nat.mul_le_mul_left _ hx
    rw [Nat.mul_add, Nat.mul_one] at this
    rw [Nat.mul_comm x]; omega
  · rw [mod_succ b V n, ← Nat.add_assoc m n 1, mod_succ b U (m + n), Nat.mul_add, Nat.add_mul]
    have h1 : q * (b ^ n * dg b V n) * b ^ m = q * dg b V n * b ^ (m + n) := by
      rw [Nat.pow_add, Nat.mul_comm (b ^ m), ← Nat.mul_assoc q, Nat.mul_right_comm q, Nat.mul_assoc]
    have h2 : b ^ (m + n) * dg b U (m + n) = dg b U (m + n) * b ^ (m + n) := Nat.mul_comm _ _
    have h3 : o' * b ^ (m + n + 1) = o' * b * b ^ (m + n) := by rw [Nat.pow_succ, Nat.mul_comm (b ^ (m + n)), Nat.mul_assoc]
    rw [h1, h2, h3]
    have h4 : (x + q * dg b V n + o) * b ^ (m + n) = (dg b U (m + n) + o' * b) * b ^ (m + n) := by rw [hs]
    rw [Nat.add_mul, Nat.add_mul, Nat.add_mul] at h4
    omega
  · rw [← dg_mod_lt hb hj, Nat.add_mul_mod_self_right, Nat.mod_eq_of_lt hZ]
  · unfold dg
    rw [Nat.add_mul_div_right _ _ hp, Nat.div_eq_of_lt hZ, Nat.zero_add, Nat.mod_eq_of_lt hx]
/- Putting back: one step. c: what is carried. -/
theorem put_step {b Z U V c T m n : Nat} (hb : 0 < b) (hZ : Z < b ^ (m + n)) (hinv : Z + c * b ^ (m + n) = U % b ^ (m + n) + V % b ^ n * b ^ m)
    (hT : T = c + dg b U (m + n) + dg b V n) :
    Z + T % b * b ^ (m + n) < b ^ (m + (n + 1)) ∧ (Z + T % b * b ^ (m + n)) + T / b * b ^ (m + (n + 1)) = U % b ^ (m + (n + 1)) + V % b ^ (n + 1) * b ^ m ∧
    (∀ j, j < m + n → dg b (Z + T % b * b ^ (m + n)) j = dg b Z j) ∧ dg b (Z + T % b * b ^ (m + n)) (m + n) = T % b := by
  have hp : 0 < b ^ (m + n) := Nat.pow_pos hb
  have hx := Nat.mod_lt T hb
  have e1 : b ^ (m + (n + 1)) = b ^ (m + n) * b := by rw [← Nat.add_assoc, Nat.pow_succ]
  refine ⟨?_, ?_, fun j hj => ?_, ?_⟩
  · rw [e1]
    have : b ^ (m + n) * (T % b + 1) ≤ b ^ (m + n) * b := Nat.mul_le_mul_left _ hx
    rw [Nat.mul_add, Nat.mul_one] at this
    rw [Nat.mul_comm (T % b)]; omega
  · rw [mod_succ b V n, ← Nat.add_assoc m n 1, mod_succ b U (m + n), Nat.add_mul]
    have h1 : b ^ n * dg b V n * b ^ m = dg b V n * b ^ (m + n) := by
      rw [Nat.pow_add, Nat.mul_comm (b ^ n), Nat.mul_assoc, Nat.mul_comm (b ^ n)]
    have h2 : b ^ (m + n) * dg b U (m + n) = dg b U (m + n) * b ^ (m + n) := Nat.mul_comm _ _
    have h3 : T / b * b ^ (m + n + 1) = b * (T / b) * b ^ (m + n) := by rw [Nat.pow_succ, Nat.mul_comm (b ^ (m + n)), ← Nat.mul_assoc, Nat.mul_comm b]
    rw [h1, h2, h3]
    have h4 := Nat.div_add_mod T b
    have h5 : (b * (T / b) + T % b) * b ^ (m + n) = (c + dg b U (m + n) + dg b V n) * b ^ (m + n) := by rw [h4, hT]
    rw [Nat.add_mul, Nat.add_mul, Nat.add_mul] at h5
    omega
  · rw [← dg_mod_lt hb hj, Nat.add_mul_mod_self_right, Nat.mod_eq_of_lt hZ]
  · unfold dg
    rw [Nat.add_mul_div_right _ _ hp, Nat.div_eq_of_lt hZ, Nat.zero_add, Nat.mod_eq_of_lt hx]
end Go.Proofs.Ytpojonfopoobpaa

namespace Go.Proofs.Ytpojonfopoobpaa

theorem gcd_half {u v : Nat} (hu : u % 2 = 0) (hv : v % 2 = 1) : Nat.gcd (u / 2) v = Nat.gcd u v := by
  have hc : Nat.Coprime 2 v := by
    have h1 : Nat.gcd 2 v ∣ 2 := Nat.gcd_dvd_left 2 v
    have h2 : Nat.gcd 2 v ∣ v := Nat.gcd_dvd_right 2 v
    have h3 : Nat.gcd 2 v ≤ 2 := Nat.le_of_dvd (by omega) h1
    have h4 : 0 < Nat.gcd 2 v := Nat.gcd_pos_of_pos_left _ (by omega)
    rcases (show Nat.gcd 2 v = 1 ∨ Nat.gcd 2 v = 2 by omega) with h | h
    · exact h
    · rw [h] at h2; omega
  have := Nat.Coprime.gcd_mul_left_cancel (u / 2) hc
  rw [show 2 * (u / 2) = u by omega] at this
  exact this.symm
theorem dvd_half {u v : Nat} (hu : u % 2 = 1) (hv : v % 2 = 0) (h : u ∣ v) : u ∣ v / 2 := by
  obtain ⟨k, hk⟩ := h
  have h2 : k % 2 = 0 := by
    rcases Nat.mod_two_eq_zero_or_one k with h | h
    · exact h
    · have : u * k % 2 = 1 := by rw [Nat.mul_mod, hu, h]
      omega
  refine ⟨k / 2, ?_⟩
  have h3 : u * k = 2 * (u * (k / 2)) := by
    rw [Nat.mul_left_comm, show 2 * (k / 2) = k by omega]
  omega

/-- Half of X, with q more where X or Y is odd. -/
def hfN (X Y q : Nat) : Nat := if X % 2 = 1 ∨ Y % 2 = 1 then (X + q) / 2 else X / 2
theorem hfN_le {X Y q : Nat} (h : X ≤ q) : hfN X Y q ≤ q := by unfold hfN; split <;> omega
theorem hfN_lt {X Y q : Nat} (h : X < q) : hfN X Y q < q := by unfold hfN; split <;> omega
theorem half_step {X p Y q t : Nat} (h : X * p = t + Y * q) (ht : t % 2 = 0) (ho : p % 2 = 1 ∨ q % 2 = 1) : hfN X Y q * p = t / 2 + hfN Y X p * q := by
  have hm : X * p % 2 = Y * q % 2 := by rw [h]; omega
  rw [Nat.mul_mod, Nat.mul_mod Y q] at hm
  unfold hfN
  by_cases ho2 : X % 2 = 1 ∨ Y % 2 = 1
  · rw [if_pos ho2, if_pos (ho2.symm)]
    have e1 : X % 2 = q % 2 ∧ Y % 2 = p % 2 := by
      rcases Nat.mod_two_eq_zero_or_one X with a | a <;> rcases Nat.mod_two_eq_zero_or_one Y with b | b <;> rcases Nat.mod_two_eq_zero_or_one p with c | c <;> rcases Nat.mod_two_eq_zero_or_one q with d | d <;> rw [a, b, c, d] at hm <;> simp at hm <;> omega
    obtain ⟨x, hx⟩ : ∃ x, X + q = 2 * x := ⟨(X + q) / 2, by omega⟩
    obtain ⟨y, hy⟩ : ∃ y, Y + p = 2 * y := ⟨(Y + p) / 2, by omega⟩
    obtain ⟨s, hs⟩ : ∃ s, t = 2 * s := ⟨t / 2, by omega⟩
    rw [hx, hy, hs]
    have f1 : (X + q) * p = X * p + q * p := Nat.add_mul ..
    have f2 : (Y + p) * q = Y * q + q * p := by rw [Nat.add_mul, Nat.mul_comm p q]
    rw [hx, Nat.mul_assoc] at f1
    rw [hy, Nat.mul_assoc] at f2
    simp only [Nat.mul_div_cancel_left _ (show 0 < 2 by omega)]
    generalize x * p = A at *
    generalize y * q = B at *
    generalize X * p = C at *
    generalize Y * q = D at *
    generalize q * p = E at *
    omega
  · rw [if_neg ho2, if_neg (fun h => ho2 h.symm)]
    obtain ⟨x, hx⟩ : ∃ x, X = 2 * x := ⟨X / 2, by omega⟩
    obtain ⟨y, hy⟩ : ∃ y, Y = 2 * y := ⟨Y / 2, by omega⟩
    obtain ⟨s, hs⟩ : ∃ s, t = 2 * s := ⟨t / 2, by omega⟩
    rw [hx, hy, hs, Nat.mul_assoc, Nat.mul_assoc] at h
    rw [hx, hy, hs]
    simp only [Nat.mul_div_cancel_left _ (show 0 < 2 by omega)]
    generalize x * p = A at *
    generalize y * q = B at *
    omega

/-- X + Y, and M less where it is not below M. -/
def rdN (T M : Nat) : Nat := if M ≤ T then T - M else T
theorem rdN_le {X Y M : Nat} (h1 : X ≤ M) (h2 : Y ≤ M) : rdN (X + Y) M ≤ M := by unfold rdN; split <;> omega

/-- The exact equations. -/
structure GExact (a m u v A B C D : Nat) : Prop where
  hA : A < m
  hB : B < a
  hC : C < m
  hD : D < a
  e1 : A * a = u + B * m
  e2 : D * m = v + C * a
  far : a ≤ v → u ∣ a
/-- u and A will not change any more. -/
structure GFroz (a m u v A : Nat) : Prop where
  hA : A < m
  odd : u % 2 = 1
  dvd : u ∣ v
  e : A * a % m = u % m
/-- What holds at the head of the loop, and behind its first half. -/
structure GI (a m u v A B C D : Nat) : Prop where
  g : Nat.gcd u v = Nat.gcd a m
  u0 : 0 < u
  par : u % 2 = 1 ∨ v % 2 = 1
  od : a % 2 = 1 ∨ m % 2 = 1
  ul : u ≤ a
  vl : v ≤ m
  bA : A ≤ m
  bB : B ≤ a
  bC : C ≤ m
  bD : D ≤ a
  ex : a < m → GFroz a m u v A ∨ GExact a m u v A B C D

theorem GI.start {a m : Nat} (ha : 0 < a) (hm : 0 < m) (ho : a % 2 = 1 ∨ m % 2 = 1) : GI a m a m 1 0 0 1 where
  g := rfl
  u0 := ha
  par := ho
  od := ho
  ul := Nat.le_refl _
  vl := Nat.le_refl _
  bA := hm
  bB := Nat.zero_le _
  bC := Nat.zero_le _
  bD := ha
  ex := fun h => by
    rcases (show a = 1 ∨ 1 < a by omega) with h1 | h1
    · subst h1
      exact .inl ⟨h, rfl, Nat.one_dvd _, by simp⟩
    · exact .inr ⟨by omega, by omega, by omega, h1, by omega, by omega, fun _ => Nat.dvd_refl _⟩

theorem GI.subU {a m u v A B C D : Nat} (h : GI a m u v A B C D) (hu : u % 2 = 1) (hv : v % 2 = 1) (hlt : v < u) : GI a m (u - v) v (rdN (A + C) m) (rdN (B + D) a) C D where
  g := by rw [← h.g]; exact Nat.gcd_sub_self_left (Nat.le_of_lt hlt)
  u0 := by omega
  par := .inr hv
  od := h.od
  ul := by have := h.ul; omega
  vl := h.vl
  bA := rdN_le h.bA h.bC
  bB := rdN_le h.bB h.bD
  bC := h.bC
  bD := h.bD
  ex := fun ham => by
    have hul := h.ul
    rcases h.ex ham with k | k
    · have := Nat.le_of_dvd (by omega) k.dvd
      omega
    · obtain ⟨hA, hB, hC, hD, e1, e2, _⟩ := k
      right
      have e3 : (A + C) * a = (u - v) + (B + D) * m := by
        rw [Nat.add_mul, Nat.add_mul]; omega
      have hS : A + C < 2 * m := by omega
      have hT : B + D < 2 * a := by omega
      have hiff : m ≤ A + C ↔ a ≤ B + D := by
        generalize A + C = S at *
        generalize B + D = T at *
        constructor
        · intro h1
          refine Nat.le_of_not_lt fun h2 => ?_
          have f1 : m * a ≤ S * a := Nat.mul_le_mul_right _ h1
          have f2 : (T + 1) * m ≤ a * m := Nat.mul_le_mul_right _ h2
          rw [Nat.add_mul, Nat.one_mul, Nat.mul_comm a m] at f2
          omega
        · intro h1
          refine Nat.le_of_not_lt fun h2 => ?_
          have f1 : a * m ≤ T * m := Nat.mul_le_mul_right _ h1
          have f2 : (S + 1) * a ≤ m * a := Nat.mul_le_mul_right _ h2
          rw [Nat.add_mul, Nat.one_mul, Nat.mul_comm m a] at f2
          omega
      by_cases h1 : m ≤ A + C
      · have h2 := hiff.1 h1
        have r1 : rdN (A + C) m = A + C - m := if_pos h1
        have r2 : rdN (B + D) a = B + D - a := if_pos h2
        rw [r1, r2]
        refine ⟨by omega, by omega, hC, hD, ?_, e2, fun h3 => by omega⟩
        rw [Nat.sub_mul, Nat.sub_mul, e3, Nat.mul_comm m a]
        have : a * m ≤ (B + D) * m := Nat.mul_le_mul_right _ h2
        omega
      · have h2 : ¬ a ≤ B + D := fun h2 => h1 (hiff.2 h2)
        have r1 : rdN (A + C) m = A + C := if_neg h1
        have r2 : rdN (B + D) a = B + D := if_neg h2
        rw [r1, r2]
        exact ⟨by omega, by omega, hC, hD, e3, e2, fun h3 => by omega⟩

theorem GI.subV {a m u v A B C D : Nat} (h : GI a m u v A B C D) (hu : u % 2 = 1) (_hv : v % 2 = 1) (hle : u ≤ v) : GI a m u (v - u) A B (rdN (C + A) m) (rdN (D + B) a) where
  g := by rw [← h.g]; exact Nat.gcd_sub_self_right hle
  u0 := h.u0
  par := .inl hu
  od := h.od
  ul := h.ul
  vl := by have := h.vl; omega
  bA := h.bA
  bB := h.bB
  bC := rdN_le h.bC h.bA
  bD := rdN_le h.bD h.bB
  ex := fun ham => by
    have hul := h.ul
    have hvl := h.vl
    have hu0 := h.u0
    rcases h.ex ham with k | k
    · exact .inl ⟨k.hA, hu, Nat.dvd_sub k.dvd (Nat.dvd_refl _), k.e⟩
    · obtain ⟨hA, hB, hC, hD, e1, e2, far⟩ := k
      have e3 : (D + B) * m = (v - u) + (C + A) * a := by
        rw [Nat.add_mul, Nat.add_mul]; omega
      have hS : C + A < 2 * m := by omega
      have hT : D + B < 2 * a := by omega
      have h12 : m ≤ C + A → a ≤ D + B := by
        generalize C + A = S at *
        generalize D + B = T at *
        intro h1
        refine Nat.le_of_not_lt fun h2 => ?_
        have f1 : m * a ≤ S * a := Nat.mul_le_mul_right _ h1
        have f2 : (T + 1) * m ≤ a * m := Nat.mul_le_mul_right _ h2
        rw [Nat.add_mul, Nat.one_mul, Nat.mul_comm a m] at f2
        omega
      by_cases h1 : m ≤ C + A
      · have h2 := h12 h1
        have r1 : rdN (C + A) m = C + A - m := if_pos h1
        have r2 : rdN (D + B) a = D + B - a := if_pos h2
        rw [r1, r2]
        refine .inr ⟨hA, hB, by omega, by omega, e1, ?_, fun h3 => far (by omega)⟩
        rw [Nat.sub_mul, Nat.sub_mul, e3, Nat.mul_comm m a]
        have : m * a ≤ (C + A) * a := Nat.mul_le_mul_right _ h1
        rw [Nat.mul_comm m a] at this
        omega
      · by_cases h2 : a ≤ D + B
        · left
          refine ⟨hA, hu, ?_, by rw [e1, Nat.add_mul_mod_self_right]⟩
          have f2 : (C + A + 1) * a ≤ m * a := Nat.mul_le_mul_right _ (by omega)
          rw [Nat.add_mul, Nat.one_mul, Nat.mul_comm m a] at f2
          have hTa : D + B = a := by
            refine Nat.le_antisymm (Nat.le_of_not_lt fun h3 => ?_) h2
            have f1 : (a + 1) * m ≤ (D + B) * m := Nat.mul_le_mul_right _ h3
            rw [Nat.add_mul, Nat.one_mul] at f1
            omega
          rw [hTa] at e3
          have hd : u ∣ a := far (by omega)
          have e4 : v - u = a * (m - (C + A)) := by
            rw [Nat.mul_sub, Nat.mul_comm a (C + A)]; omega
          rw [e4]
          exact Nat.dvd_trans hd (Nat.dvd_mul_right _ _)
        · have r1 : rdN (C + A) m = C + A := if_neg h1
          have r2 : rdN (D + B) a = D + B := if_neg h2
          rw [r1, r2]
          exact .inr ⟨hA, hB, by omega, by omega, e1, e3, fun h3 => far (by omega)⟩

theorem GI.halfU {a m u v A B C D : Nat} (h : GI a m u v A B C D) (hu : u % 2 = 0) : GI a m (u / 2) v (hfN A B m) (hfN B A a) C D where
  g := by rw [← h.g]; exact gcd_half hu (by have := h.par; omega)
  u0 := by have := h.u0; omega
  par := .inr (by have := h.par; omega)
  od := h.od
  ul := by have := h.ul; omega
  vl := h.vl
  bA := hfN_le h.bA
  bB := hfN_le h.bB
  bC := h.bC
  bD := h.bD
  ex := fun ham => by
    rcases h.ex ham with k | k
    · have := k.odd; omega
    · obtain ⟨hA, hB, hC, hD, e1, e2, far⟩ := k
      refine .inr ⟨hfN_lt hA, hfN_lt hB, hC, hD, half_step e1 hu h.od, e2, fun h3 => ?_⟩
      obtain ⟨k, hk⟩ := far h3
      refine ⟨2 * k, ?_⟩
      rw [hk, ← Nat.mul_assoc, Nat.mul_comm (u / 2) 2, show 2 * (u / 2) = u by omega]

theorem GI.halfV {a m u v A B C D : Nat} (h : GI a m u v A B C D) (hv : v % 2 = 0) : GI a m u (v / 2) A B (hfN C D m) (hfN D C a) where
  g := by
    rw [← h.g, Nat.gcd_comm u v, Nat.gcd_comm u]; exact gcd_half hv (by have := h.par; omega)
  u0 := h.u0
  par := .inl (by have := h.par; omega)
  od := h.od
  ul := h.ul
  vl := by have := h.vl; omega
  bA := h.bA
  bB := h.bB
  bC := hfN_le h.bC
  bD := hfN_le h.bD
  ex := fun ham => by
    rcases h.ex ham with k | k
    · exact .inl ⟨k.hA, k.odd, dvd_half k.odd hv k.dvd, k.e⟩
    · obtain ⟨hA, hB, hC, hD, e1, e2, far⟩ := k
      exact .inr ⟨hA, hB, hfN_lt hC, hfN_lt hD, e1, half_step e2 hv h.od.symm, fun h3 => far (by omega)⟩

theorem GI.done {a m u A B C D : Nat} (h : GI a m u 0 A B C D) : u = Nat.gcd a m ∧ (a < m → A < m ∧ A * a % m = u % m) := by
  refine ⟨by have := h.g; rwa [Nat.gcd_zero_right] at this, fun ham => ?_⟩
  rcases h.ex ham with k | k
  · exact ⟨k.hA, k.e⟩
  · exact ⟨k.hA, by rw [k.e1, Nat.add_mul_mod_self_right]⟩
end Go.Proofs.Ytpojonfopoobpaa
