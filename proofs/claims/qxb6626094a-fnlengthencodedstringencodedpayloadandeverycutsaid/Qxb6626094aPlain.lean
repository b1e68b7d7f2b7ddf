/-
  PLAIN ARITHMETIC FOR THE SEAT b6626094a: a length header and what it says. No Go in sight.
  'g i' is the byte at place i of a buffer, 'n' the buffer's length.
-/
namespace Go.Proofs.Qxb6626094a.Les

/-- How many bytes the length header takes, by its first byte; 0: that byte opens none. -/
def hl (c : Int) : Nat :=
  if c = 252 then 3 else if c = 253 then 4 else if c = 254 then 9 else if c = 251 then 0 else if c = 255 then 0 else 1

/-- The bytes 1 .. k read forward, growing weights. -/
def vv (g : Nat → Int) : Nat → Int
  | 0 => 0
  | k + 1 => vv g k + g (k + 1) * 256 ^ k

/-- The bytes m, m-1, .. (k of them) read from the top. -/
def dn (g : Nat → Int) (m : Nat) : Nat → Int
  | 0 => 0
  | k + 1 => dn g m k * 256 + g (m - k)

/-- The weight of byte k + 1, as a uint64 has it. -/
def pw : Nat → Int
  | 0 => 1
  | k + 1 => (pw k * 256) % 18446744073709551616

/-- The length that is declared. -/
def num (g : Nat → Int) : Int := if hl (g 0) = 1 then g 0 else vv g (hl (g 0) - 1)

/-- Is there a header? -/
def heads (g : Nat → Int) (n : Nat) : Bool := decide (n ≠ 0 ∧ hl (g 0) ≠ 0 ∧ hl (g 0) ≤ n)

/-- Is there a string? -/
def okB (g : Nat → Int) (n : Nat) : Bool := decide (n ≠ 0 ∧ hl (g 0) ≠ 0 ∧ hl (g 0) ≤ n ∧ num g ≤ (n : Int) - (hl (g 0) : Int))

def Bytes (g : Nat → Int) : Prop := ∀ i, 0 ≤ g i ∧ g i ≤ 255

theorem pow_pos' (k : Nat) : (0 : Int) < 256 ^ k := Int.pow_pos (by decide)

theorem mul_le_byte (a p : Int) (h0 : 0 ≤ a) (h1 : a ≤ 255) (hp : 0 < p) : 0 ≤ a * p ∧ a * p ≤ 255 * p :=
  ⟨Int.mul_nonneg h0 (Int.le_of_lt hp), Int.mul_le_mul_of_nonneg_right h1 (Int.le_of_lt hp)⟩

theorem vv_bd (g : Nat → Int) (hg : Bytes g) : ∀ k, 0 ≤ vv g k ∧ vv g k < 256 ^ k
  | 0 => by simp [vv]
  | k + 1 => by
    have ih := vv_bd g hg k
    have hb := mul_le_byte (g (k + 1)) (256 ^ k) (hg _).1 (hg _).2 (pow_pos' k)
    have e : (256 : Int) ^ (k + 1) = 256 * 256 ^ k := by rw [Int.pow_succ, Int.mul_comm]
    simp only [vv]
    rw [e]
    omega

theorem dn_bd (g : Nat → Int) (hg : Bytes g) (m : Nat) : ∀ k, 0 ≤ dn g m k ∧ dn g m k < 256 ^ k
  | 0 => by simp [dn]
  | k + 1 => by
    have ih := dn_bd g hg m k
    have hb := hg (m - k)
    have e : (256 : Int) ^ (k + 1) = 256 * 256 ^ k := by rw [Int.pow_succ, Int.mul_comm]
    simp only [dn]
    rw [e]
    omega

theorem dn_vv (g : Nat → Int) (m : Nat) : ∀ k, k ≤ m → dn g m k * 256 ^ (m - k) + vv g (m - k) = vv g m
  | 0, _ => by simp [dn]
  | k + 1, h => by
    have ih := dn_vv g m k (by omega)
    obtain ⟨j, hj⟩ : ∃ j, m - k = j + 1 := ⟨m - k - 1, by omega⟩
    have hj' : m - (k + 1) = j := by omega
    rw [hj'] 
    rw [hj] at ih
    simp only [dn, hj]
    simp only [vv] at ih
    rw [Int.pow_succ] at ih
    rw [← ih]
    rw [Int.add_mul, Int.mul_assoc (dn g m k) 256, Int.mul_comm 256]
    omega

theorem dn_all (g : Nat → Int) (m : Nat) : dn g m m = vv g m := by
  have h := dn_vv g m m (Nat.le_refl _)
  simpa [vv] using h

theorem pow_le8 (k : Nat) (h : k ≤ 8) : (256 : Int) ^ k ≤ 18446744073709551616 := by
  match k, h with
  | 0, _ => decide
  | 1, _ => decide
  | 2, _ => decide
  | 3, _ => decide
  | 4, _ => decide
  | 5, _ => decide
  | 6, _ => decide
  | 7, _ => decide
  | 8, _ => decide

theorem pow_le7 (k : Nat) (h : k ≤ 7) : (256 : Int) ^ k ≤ 72057594037927936 := by
  match k, h with
  | 0, _ => decide
  | 1, _ => decide
  | 2, _ => decide
  | 3, _ => decide
  | 4, _ => decide
  | 5, _ => decide
  | 6, _ => decide
  | 7, _ => decide

theorem pw_eq (k : Nat) (h : k ≤ 7) : pw k = 256 ^ k := by
  match k, h with
  | 0, _ => decide
  | 1, _ => decide
  | 2, _ => decide
  | 3, _ => decide
  | 4, _ => decide
  | 5, _ => decide
  | 6, _ => decide
  | 7, _ => decide

theorem pw_bd : ∀ k, 0 ≤ pw k ∧ pw k < 18446744073709551616
  | 0 => by decide
  | k + 1 => by simp only [pw]; omega

theorem hl_cases (c : Int) : (c = 252 ∧ hl c = 3) ∨ (c = 253 ∧ hl c = 4) ∨ (c = 254 ∧ hl c = 9) ∨ (c = 251 ∧ hl c = 0) ∨ (c = 255 ∧ hl c = 0) ∨
    (c ≠ 252 ∧ c ≠ 253 ∧ c ≠ 254 ∧ c ≠ 251 ∧ c ≠ 255 ∧ hl c = 1) := by
  unfold hl
  by_cases h1 : c = 252
  · simp [h1]
  by_cases h2 : c = 253
  · simp [h2]
  by_cases h3 : c = 254
  · simp [h3]
  by_cases h4 : c = 251
  · simp [h4]
  by_cases h5 : c = 255
  · simp [h5]
  simp [h1, h2, h3, h4, h5]

theorem hl_le (c : Int) : hl c ≤ 9 := by rcases hl_cases c with h | h | h | h | h | h <;> omega

theorem num_bd (g : Nat → Int) (hg : Bytes g) : 0 ≤ num g ∧ num g < 18446744073709551616 := by
  unfold num
  split
  · have := hg 0; omega
  · have h := vv_bd g hg (hl (g 0) - 1)
    have := pow_le8 (hl (g 0) - 1) (by have := hl_le (g 0); omega)
    omega

/-! ### What a header says hangs on its own bytes alone -/
theorem vv_congr (g g' : Nat → Int) : ∀ k, (∀ i, i ≤ k → g' i = g i) → vv g' k = vv g k
  | 0, _ => rfl
  | k + 1, h => by
    simp only [vv]
    rw [vv_congr g g' k (fun i hi => h i (by omega)), h (k + 1) (Nat.le_refl _)]

theorem num_congr (g g' : Nat → Int) (h1 : hl (g 0) ≠ 0) (h : ∀ i, i < hl (g 0) → g' i = g i) : hl (g' 0) = hl (g 0) ∧ num g' = num g := by
  have e0 : g' 0 = g 0 := h 0 (by omega)
  refine ⟨by rw [e0], ?_⟩
  unfold num
  rw [e0]
  split
  · rfl
  · exact vv_congr g g' _ (fun i hi => h i (by omega))

/-- Bytes behind do not turn the answer. -/
theorem okB_longer (g g' : Nat → Int) (n m : Nat) (hn : okB g n = true) (h : ∀ i, i < n → g' i = g i) (hm : n ≤ m) :
    okB g' m = true ∧ hl (g' 0) = hl (g 0) ∧ num g' = num g := by
  simp only [okB, decide_eq_true_eq] at hn
  obtain ⟨h0, h1, h2, h3⟩ := hn
  obtain ⟨e1, e2⟩ := num_congr g g' h1 (fun i hi => h i (by omega))
  refine ⟨?_, e1, e2⟩
  simp only [okB, decide_eq_true_eq]
  rw [e1, e2]
  omega

end Go.Proofs.Qxb6626094a.Les
