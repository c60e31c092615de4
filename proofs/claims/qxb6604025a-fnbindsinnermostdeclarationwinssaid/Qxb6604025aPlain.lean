/-
  THE PLAIN MATHEMATICS of the laws on 'digits'. No Go in sight.
-/
namespace Go.Proofs.Qxb6604025a

/-- 10 to the k. -/
def pow10 : Nat → Int
  | 0 => 1
  | k + 1 => pow10 k * 10

theorem pow10_pos : ∀ k, 1 ≤ pow10 k
  | 0 => by simp [pow10]
  | k + 1 => by have := pow10_pos k; simp only [pow10]; omega

theorem pow10_mono : ∀ (k m : Nat), k ≤ m → pow10 k ≤ pow10 m
  | k, 0, h => by rw [show k = 0 by omega]; exact Int.le_refl _
  | k, m + 1, h => by
    by_cases e : k = m + 1
    · rw [e]; exact Int.le_refl _
    · have h1 := pow10_mono k m (by omega)
      have h2 := pow10_pos m
      simp only [pow10]
      omega

theorem pow10_17 (k : Nat) (h : k ≤ 17) : pow10 k ≤ 100000000000000000 := by
  have := pow10_mono k 17 h
  have e : pow10 17 = 100000000000000000 := by decide
  omega

theorem pow10_18 (k : Nat) (h : k ≤ 18) : pow10 k ≤ 1000000000000000000 := by
  have := pow10_mono k 18 h
  have e : pow10 18 = 1000000000000000000 := by decide
  omega

/-- The value of the first m digits. -/
def val (Z : Nat → Int) : Nat → Int
  | 0 => 0
  | m + 1 => val Z m * 10 + (Z m - 48)

theorem val_bounds (Z : Nat → Int) : ∀ m, (∀ j, j < m → 48 ≤ Z j ∧ Z j ≤ 57) → 0 ≤ val Z m ∧ val Z m < pow10 m
  | 0, _ => by simp [val, pow10]
  | m + 1, h => by
    obtain ⟨h1, h2⟩ := val_bounds Z m (fun j hj => h j (by omega))
    obtain ⟨h3, h4⟩ := h m (by omega)
    simp only [val, pow10]
    omega

theorem ediv_pow (n : Int) (m : Nat) : n / pow10 m / 10 = n / pow10 (m + 1) := by
  rw [Int.ediv_ediv_of_nonneg (by have := pow10_pos m; omega)]
  rfl

/-- The byte at place j of n, written in w bytes. -/
def pad (n : Int) (w : Nat) (j : Nat) : Int := 48 + n / pow10 (w - 1 - j) % 10

theorem pad_bounds (n : Int) (w j : Nat) : 48 ≤ pad n w j ∧ pad n w j ≤ 57 := by
  unfold pad
  omega

theorem val_congr {Z Z' : Nat → Int} : ∀ m, (∀ j, j < m → Z j = Z' j) → val Z m = val Z' m
  | 0, _ => rfl
  | m + 1, h => by simp only [val]; rw [val_congr m (fun j hj => h j (by omega)), h m (by omega)]

/-- What is read of the first m bytes is n without its last w - m digits. -/
theorem val_pad (n : Int) (w : Nat) (h0 : 0 ≤ n) (hn : n < pow10 w) : ∀ m, m ≤ w → val (pad n w) m = n / pow10 (w - m)
  | 0, _ => by
    simp only [val, Nat.sub_zero]
    exact (Int.ediv_eq_zero_of_lt h0 hn).symm
  | m + 1, h => by
    have ih := val_pad n w h0 hn m (by omega)
    have e : w - m = (w - (m + 1)) + 1 := by omega
    simp only [val, ih, pad]
    rw [e, ← ediv_pow, show w - 1 - m = w - (m + 1) by omega]
    omega

theorem val_pad_all (n : Int) (w : Nat) (h0 : 0 ≤ n) (hn : n < pow10 w) : val (pad n w) w = n := by
  rw [val_pad n w h0 hn w (Nat.le_refl _), Nat.sub_self]
  simp [pow10]

/-- The value of L digits, cut to its first m. -/
theorem val_cut (Z : Nat → Int) (L : Nat) (hd : ∀ j, j < L → 48 ≤ Z j ∧ Z j ≤ 57) : ∀ m, m ≤ L → val Z L / pow10 m = val Z (L - m)
  | 0, _ => by simp [pow10]
  | m + 1, h => by
    rw [← ediv_pow, val_cut Z L hd m (by omega)]
    have e : L - m = (L - (m + 1)) + 1 := by omega
    rw [e]
    simp only [val]
    have := hd (L - (m + 1)) (by omega)
    omega

/-- Written in L bytes, the value of L digits is those digits. -/
theorem pad_val (Z : Nat → Int) (L : Nat) (hd : ∀ j, j < L → 48 ≤ Z j ∧ Z j ≤ 57) (j : Nat) (hj : j < L) : pad (val Z L) L j = Z j := by
  unfold pad
  rw [val_cut Z L hd (L - 1 - j) (by omega), show L - (L - 1 - j) = j + 1 by omega]
  simp only [val]
  have := hd j hj
  omega

end Go.Proofs.Qxb6604025a
