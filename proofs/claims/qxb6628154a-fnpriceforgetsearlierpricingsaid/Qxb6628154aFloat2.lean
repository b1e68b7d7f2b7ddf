/-
  PLAIN FACTS ON DOUBLES FOR THE SEAT b6628154a, the operations: product, quotient by a million, sum, comparison; a number and its double go side by side.
-/
import Derived.Test.Qxb6628154aFloat
namespace Go.Proofs.Qxb6628154a.Fl
open Ieee

/-- y is x doubled (or both are zeros); x's place lies between lo and hi. -/
def Pair (lo hi : Int) (x y : Nat) : Prop :=
  (Zero x ∧ Zero y) ∨ ∃ s m e, Norm x s m e ∧ Norm y s m (e + 1) ∧ lo ≤ e ∧ e ≤ hi

theorem norm_twice {x : Nat} {s : Bool} {m : Nat} {e : Int} (h : Norm x s m e) (he : e ≤ 970) : Norm (double.word s (rung m (e + 1))) s m (e + 1) :=
  ⟨rfl, h.2.1, h.2.2.1, by have := h.2.2.2.1; omega, by omega⟩

theorem nearest_zero (s : Bool) (p : Int) : double.nearest s 0 p = double.word s 0 := by
  unfold Format.nearest; rw [if_pos rfl]

theorem log2_lt_of {M k : Nat} (h : M < 2 ^ k) (hk : 0 < k) : M.log2 < k := by
  by_cases h0 : M = 0
  · subst h0; simpa using hk
  · exact (Nat.log2_lt h0).2 h

theorem le_log2_of {M k : Nat} (h : 2 ^ k ≤ M) : k ≤ M.log2 := by
  have h0 : M ≠ 0 := by have := Nat.two_pow_pos k; omega
  exact (Nat.le_log2 h0).2 h

/-! ### float64(t) -/
theorem int_pair (t : Int) (h0 : t ≠ 0) (h : t.natAbs ≤ 9223372036854775808) :
    ∃ m e, Norm (double.nearest (decide (t < 0)) t.natAbs 0) (decide (t < 0)) m e ∧ Norm (double.nearest (decide (2 * t < 0)) (2 * t).natAbs 0) (decide (t < 0)) m (e + 1) ∧ -52 ≤ e ∧ e ≤ 12 := by
  have hn : t.natAbs ≠ 0 := by omega
  have e1 : (2 * t).natAbs = 2 * t.natAbs := by omega
  have e2 : decide (2 * t < 0) = decide (t < 0) := by rw [Bool.eq_iff_iff]; simp only [decide_eq_true_eq]; omega
  have hl : t.natAbs.log2 < 64 := log2_lt_of (by omega) (by omega)
  obtain ⟨m, e, a, b, c, d⟩ := nearest_norm (decide (t < 0)) t.natAbs 0 hn (by omega) (by omega)
  rw [e1, e2, nearest_double]
  exact ⟨m, e, a, b, by omega, by omega⟩

theorem int_zero : Zero (double.nearest (decide ((0 : Int) < 0)) (0 : Int).natAbs 0) := ⟨_, nearest_zero _ _⟩

/-! ### The product -/
theorem sig_mul {m n : Nat} (h1 : 4503599627370496 ≤ m) (h2 : m < 9007199254740992) (h3 : 4503599627370496 ≤ n) (h4 : n < 9007199254740992) :
    m * n ≠ 0 ∧ 104 ≤ (m * n).log2 ∧ (m * n).log2 < 106 := by
  have a : 4503599627370496 * 4503599627370496 ≤ m * n := Nat.mul_le_mul h1 h3
  have b : m * n < 9007199254740992 * 9007199254740992 := Nat.mul_lt_mul'' h2 h4
  refine ⟨by omega, le_log2_of ?_, log2_lt_of ?_ (by omega)⟩
  · rw [show (2 : Nat) ^ 104 = 4503599627370496 * 4503599627370496 by decide]; exact a
  · rw [show (2 : Nat) ^ 106 = 9007199254740992 * 9007199254740992 by decide]; exact b

theorem mul_pair {x x' p : Nat} {s t : Bool} {m n : Nat} {e j : Int} (hx : Norm x s m e) (hx' : Norm x' s m (e + 1)) (hp : Norm p t n j) (h1 : -1126 ≤ e + j) (h2 : e + j ≤ 900) :
    ∃ y y' M E, double.mul x p = some y ∧ double.mul x' p = some y' ∧ Norm y (s ^^ t) M E ∧ Norm y' (s ^^ t) M (E + 1) ∧ e + j + 52 ≤ E ∧ E ≤ e + j + 54 := by
  obtain ⟨a, b, c⟩ := sig_mul hx.2.1 hx.2.2.1 hp.2.1 hp.2.2.1
  obtain ⟨M, E, u, v, w, z⟩ := nearest_norm (s ^^ t) (m * n) (e + j) a (by omega) (by omega)
  refine ⟨_, _, M, E, ?_, ?_, u, v, by omega, by omega⟩
  · unfold Format.mul; rw [read_norm hx, read_norm hp]; rfl
  · unfold Format.mul; rw [read_norm hx', read_norm hp]
    have : e + 1 + j = e + j + 1 := by omega
    show some (double.nearest (s ^^ t) (m * n) (e + 1 + j)) = _
    rw [this]

/-- What a finite word reads as. -/
def Fin (x : Nat) : Prop := Zero x ∨ ∃ s m e, Norm x s m e

theorem mul_zero_left {x p : Nat} (hx : Zero x) (hp : Fin p) : ∃ y, double.mul x p = some y ∧ Zero y := by
  obtain ⟨s, rfl⟩ := hx
  rcases hp with ⟨t, rfl⟩ | ⟨t, n, j, hp⟩
  · refine ⟨double.word (s ^^ t) 0, ?_, _, rfl⟩
    unfold Format.mul; rw [read_zero, read_zero]
    show some (double.nearest (s ^^ t) (0 * 0) _) = _
    rw [Nat.zero_mul, nearest_zero]
  · refine ⟨double.word (s ^^ t) 0, ?_, _, rfl⟩
    unfold Format.mul; rw [read_zero, read_norm hp]
    show some (double.nearest (s ^^ t) (0 * n) _) = _
    rw [Nat.zero_mul, nearest_zero]

theorem mul_zero_right {x p : Nat} (hx : Fin x) (hp : Zero p) : ∃ y, double.mul x p = some y ∧ Zero y := by
  obtain ⟨t, rfl⟩ := hp
  rcases hx with ⟨s, rfl⟩ | ⟨s, m, e, hx⟩
  · refine ⟨double.word (s ^^ t) 0, ?_, _, rfl⟩
    unfold Format.mul; rw [read_zero, read_zero]
    show some (double.nearest (s ^^ t) (0 * 0) _) = _
    rw [Nat.mul_zero, nearest_zero]
  · refine ⟨double.word (s ^^ t) 0, ?_, _, rfl⟩
    unfold Format.mul; rw [read_zero, read_norm hx]
    show some (double.nearest (s ^^ t) (m * 0) _) = _
    rw [Nat.mul_zero, nearest_zero]

/-! ### The quotient by a million -/
def million : Nat := 4696837146684686336
theorem read_million : double.read million = .number false 8589934592000000 (-33) := by decide +kernel

theorem div_sig {m : Nat} (h1 : 4503599627370496 ≤ m) (h2 : m < 9007199254740992) :
    let Q := 2 * (m <<< 54 / 8589934592000000) + (m <<< 54 % 8589934592000000 != 0).toNat
    Q ≠ 0 ∧ 54 ≤ Q.log2 ∧ Q.log2 < 57 := by
  intro Q
  have hb : (m <<< 54 % 8589934592000000 != 0).toNat ≤ 1 := by cases (m <<< 54 % 8589934592000000 != 0) <;> simp
  have e : m <<< 54 = m * 18014398509481984 := by rw [Nat.shiftLeft_eq]
  have a : 18014398509481984 ≤ Q := by
    show 18014398509481984 ≤ 2 * (m <<< 54 / 8589934592000000) + (m <<< 54 % 8589934592000000 != 0).toNat
    rw [e] at hb ⊢
    omega
  have b : Q < 144115188075855872 := by
    show 2 * (m <<< 54 / 8589934592000000) + (m <<< 54 % 8589934592000000 != 0).toNat < 144115188075855872
    rw [e] at hb ⊢
    omega
  exact ⟨by omega, le_log2_of (by rw [show (2 : Nat) ^ 54 = 18014398509481984 by decide]; exact a), log2_lt_of (by rw [show (2 : Nat) ^ 57 = 144115188075855872 by decide]; exact b) (by omega)⟩

theorem quotient_number (d : Nat) (s : Bool) (m : Nat) (i : Int) (t : Bool) (n : Nat) (j : Int) (hn : n ≠ 0) (k : Nat) (hk : d + n.log2 - m.log2 = k) :
    Datum.quotient d (.number s m i) (.number t n j) = some (.number (s ^^ t) (2 * (m <<< k / n) + (m <<< k % n != 0).toNat) (i - j - k - 1)) := by
  subst hk
  simp only [Datum.quotient]
  rw [if_neg hn]

theorem div_norm_eq {x : Nat} {s : Bool} {m : Nat} {e : Int} (hx : Norm x s m e) :
    double.div x million = some (double.nearest s (2 * (m <<< 54 / 8589934592000000) + (m <<< 54 % 8589934592000000 != 0).toNat) (e - 22)) := by
  unfold Format.div
  rw [read_norm hx, read_million]
  have hl := log2_sig hx.2.1 hx.2.2.1
  have hl2 : Nat.log2 8589934592000000 = 52 := log2_sig (by omega) (by omega)
  have hm : double.fractionBits + 2 + Nat.log2 8589934592000000 - m.log2 = 54 := by rw [hl, hl2, fb]
  rw [quotient_number _ s m e false 8589934592000000 (-33) (by omega) 54 hm, Option.map_some, Bool.xor_false]
  have e1 : e - -33 - ((54 : Nat) : Int) - 1 = e - 22 := by omega
  rw [e1]
  rfl

theorem div_pair {x x' : Nat} {s : Bool} {m : Nat} {e : Int} (hx : Norm x s m e) (hx' : Norm x' s m (e + 1)) (h1 : -1000 ≤ e) (h2 : e ≤ 900) :
    ∃ y y' M E, double.div x million = some y ∧ double.div x' million = some y' ∧ Norm y s M E ∧ Norm y' s M (E + 1) ∧ e - 20 ≤ E ∧ E ≤ e - 17 := by
  obtain ⟨a, b, c⟩ := div_sig hx.2.1 hx.2.2.1
  obtain ⟨M, E, u, v, w, z⟩ := nearest_norm s _ (e - 22) a (by omega) (by omega)
  refine ⟨_, _, M, E, div_norm_eq hx, ?_, u, v, by omega, by omega⟩
  rw [div_norm_eq hx', show e + 1 - 22 = e - 22 + 1 by omega]

theorem div_zero {x : Nat} (hx : Zero x) : ∃ y, double.div x million = some y ∧ Zero y := by
  obtain ⟨s, rfl⟩ := hx
  refine ⟨double.word s 0, ?_, _, rfl⟩
  cases s <;> decide +kernel

/-! ### The sum -/
theorem signed_pos (m k : Nat) : signed false m k = ((m * 2 ^ k : Nat) : Int) := by simp [signed, Nat.shiftLeft_eq]
theorem signed_neg (m k : Nat) : signed true m k = -((m * 2 ^ k : Nat) : Int) := by simp [signed, Nat.shiftLeft_eq]
theorem signed_abs (s : Bool) (m k : Nat) : (signed s m k).natAbs = m * 2 ^ k := by
  cases s
  · rw [signed_pos]; omega
  · rw [signed_neg]; omega
theorem signed_zero (s : Bool) (k : Nat) : signed s 0 k = 0 := by cases s <;> simp [signed]
theorem signed_lt (s : Bool) (m k : Nat) (h : m ≠ 0) : signed s m k ≠ 0 ∧ decide (signed s m k < 0) = s := by
  have hp : 0 < m * 2 ^ k := Nat.mul_pos (by omega) (Nat.two_pow_pos k)
  cases s
  · rw [signed_pos]; exact ⟨by omega, decide_eq_false (by omega)⟩
  · rw [signed_neg]; exact ⟨by omega, decide_eq_true (by omega)⟩

theorem sum_number (s : Bool) (m : Nat) (i : Int) (t : Bool) (n : Nat) (j : Int) (b : Int) (hb : min i j = b) (T : Int) (hT : signed s m (i - b).toNat + signed t n (j - b).toNat = T) :
    Datum.sum (.number s m i) (.number t n j) = some (.number (if T = 0 then s && t else decide (T < 0)) T.natAbs b) := by
  subst hb; subst hT; rfl

theorem add_zero_zero {x y : Nat} (hx : Zero x) (hy : Zero y) : ∃ z, double.add x y = some z ∧ Zero z := by
  obtain ⟨s, rfl⟩ := hx
  obtain ⟨t, rfl⟩ := hy
  refine ⟨double.word (s && t) 0, ?_, _, rfl⟩
  cases s <;> cases t <;> decide +kernel

theorem add_norm_zero {x y : Nat} {s : Bool} {m : Nat} {e : Int} (hx : Norm x s m e) (he : e ≤ 970) (hy : Zero y) : double.add x y = some x := by
  obtain ⟨t, rfl⟩ := hy
  have hlo := hx.2.2.2.1
  obtain ⟨k, rfl⟩ : ∃ k : Nat, e = (k : Int) - 1074 := ⟨(e + 1074).toNat, by omega⟩
  have hm : m ≠ 0 := by have := hx.2.1; omega
  unfold Format.add
  rw [read_norm hx, read_zero, sum_number s m _ t 0 (-1074) (-1074) (by omega) (signed s m k) (by
    rw [signed_zero, Int.add_zero]; congr 1; omega), Option.map_some]
  rw [if_neg (signed_lt s m k hm).1, (signed_lt s m k hm).2, signed_abs]
  show some (double.nearest s (m * 2 ^ k) (-1074)) = _
  rw [nearest_shift, ← nearest_exact hx he]
  exact congrArg some (congrArg (double.nearest s m) (by omega))

theorem add_zero_norm {x y : Nat} {s : Bool} {m : Nat} {e : Int} (hx : Zero x) (hy : Norm y s m e) (he : e ≤ 970) : double.add x y = some y := by
  obtain ⟨t, rfl⟩ := hx
  have hlo := hy.2.2.2.1
  obtain ⟨k, rfl⟩ : ∃ k : Nat, e = (k : Int) - 1074 := ⟨(e + 1074).toNat, by omega⟩
  have hm : m ≠ 0 := by have := hy.2.1; omega
  unfold Format.add
  rw [read_norm hy, read_zero, sum_number t 0 (-1074) s m _ (-1074) (by omega) (signed s m k) (by
    rw [signed_zero, Int.zero_add]; congr 1; omega), Option.map_some]
  rw [if_neg (signed_lt s m k hm).1, (signed_lt s m k hm).2, signed_abs]
  show some (double.nearest s (m * 2 ^ k) (-1074)) = _
  rw [nearest_shift, ← nearest_exact hy he]
  exact congrArg some (congrArg (double.nearest s m) (by omega))

theorem sum_small (s t : Bool) (m n a b h : Nat) (h1 : m < 9007199254740992) (h2 : n < 9007199254740992) (ha : a ≤ h) (hb : b ≤ h) :
    (signed s m a + signed t n b).natAbs < 2 ^ (54 + h) := by
  have e : (2 : Nat) ^ (54 + h) = 9007199254740992 * 2 ^ h + 9007199254740992 * 2 ^ h := by
    rw [Nat.pow_add, show (2 : Nat) ^ 54 = 9007199254740992 + 9007199254740992 by decide, Nat.add_mul]
  have a1 : m * 2 ^ a < 9007199254740992 * 2 ^ h := Nat.lt_of_lt_of_le (Nat.mul_lt_mul_of_pos_right h1 (Nat.two_pow_pos a)) (Nat.mul_le_mul_left _ (Nat.pow_le_pow_right (by omega) ha))
  have a2 : n * 2 ^ b < 9007199254740992 * 2 ^ h := Nat.lt_of_lt_of_le (Nat.mul_lt_mul_of_pos_right h2 (Nat.two_pow_pos b)) (Nat.mul_le_mul_left _ (Nat.pow_le_pow_right (by omega) hb))
  have b1 := signed_abs s m a
  have b2 := signed_abs t n b
  rw [e]
  omega

theorem add_pair {lo hi : Int} {x x' y y' : Nat} (hx : Pair lo hi x x') (hy : Pair lo hi y y') (h1 : -1000 ≤ lo) (h2 : hi ≤ 900) :
    ∃ z z', double.add x y = some z ∧ double.add x' y' = some z' ∧ Pair (lo - 52) (hi + 2) z z' := by
  rcases hx with ⟨zx, zx'⟩ | ⟨s, m, e, nx, nx', lx, ux⟩
  · rcases hy with ⟨zy, zy'⟩ | ⟨t, n, j, ny, ny', ly, uy⟩
    · obtain ⟨z, a, b⟩ := add_zero_zero zx zy
      obtain ⟨z', a', b'⟩ := add_zero_zero zx' zy'
      exact ⟨z, z', a, a', .inl ⟨b, b'⟩⟩
    · exact ⟨y, y', add_zero_norm zx ny (by omega), add_zero_norm zx' ny' (by omega), .inr ⟨t, n, j, ny, ny', by omega, by omega⟩⟩
  · rcases hy with ⟨zy, zy'⟩ | ⟨t, n, j, ny, ny', ly, uy⟩
    · exact ⟨x, x', add_norm_zero nx (by omega) zy, add_norm_zero nx' (by omega) zy', .inr ⟨s, m, e, nx, nx', by omega, by omega⟩⟩
    · obtain ⟨T, hT⟩ : ∃ T, signed s m (e - min e j).toNat + signed t n (j - min e j).toNat = T := ⟨_, rfl⟩
      have ha : double.add x y = some (double.nearest (if T = 0 then s && t else decide (T < 0)) T.natAbs (min e j)) := by
        unfold Format.add
        rw [read_norm nx, read_norm ny, sum_number s m e t n j (min e j) rfl T hT]
        rfl
      have ha' : double.add x' y' = some (double.nearest (if T = 0 then s && t else decide (T < 0)) T.natAbs (min e j + 1)) := by
        unfold Format.add
        rw [read_norm nx', read_norm ny', sum_number s m (e + 1) t n (j + 1) (min e j + 1) (by omega) T (by
          rw [← hT, show e + 1 - (min e j + 1) = e - min e j by omega, show j + 1 - (min e j + 1) = j - min e j by omega])]
        rfl
      by_cases h0 : T = 0
      · subst h0
        exact ⟨_, _, ha, ha', .inl ⟨⟨_, nearest_zero _ _⟩, ⟨_, nearest_zero _ _⟩⟩⟩
      · have hs := sum_small s t m n (e - min e j).toNat (j - min e j).toNat (max e j - min e j).toNat nx.2.2.1 ny.2.2.1 (by omega) (by omega)
        rw [hT] at hs
        have hl := log2_lt_of hs (by omega)
        obtain ⟨M, E, u, v, p, q⟩ := nearest_norm (if T = 0 then s && t else decide (T < 0)) T.natAbs (min e j) (by omega) (by omega) (by omega)
        exact ⟨_, _, ha, ha', .inr ⟨_, M, E, u, v, by omega, by omega⟩⟩

/-! ### Twice a number; equality -/
def two : Nat := 4611686018427387904
theorem read_two : double.read two = .number false 4503599627370496 (-51) := by decide +kernel

theorem order_norm {x : Nat} {s : Bool} {m : Nat} {e : Int} (hx : Norm x s m e) : double.order x x = some .eq := by
  unfold Format.order
  rw [read_norm hx]
  simp only [Datum.order]
  generalize signed s m (e - min e e).toNat = a
  rw [Int.compare_eq_eq.2 rfl]

theorem order_zero {x y : Nat} (hx : Zero x) (hy : Zero y) : double.order x y = some .eq := by
  obtain ⟨s, rfl⟩ := hx
  obtain ⟨t, rfl⟩ := hy
  cases s <;> cases t <;> decide +kernel

theorem twice_pair {lo hi : Int} {x y : Nat} (h : Pair lo hi x y) (h2 : hi ≤ 900) : ∃ z, double.mul two x = some z ∧ double.order y z = some .eq := by
  rcases h with ⟨zx, zy⟩ | ⟨s, m, e, nx, ny, lx, ux⟩
  · obtain ⟨s, rfl⟩ := zx
    refine ⟨double.word s 0, ?_, order_zero zy ⟨s, rfl⟩⟩
    cases s <;> decide +kernel
  · refine ⟨y, ?_, order_norm ny⟩
    unfold Format.mul
    rw [read_two, read_norm nx]
    show some (double.nearest (false ^^ s) (4503599627370496 * m) (-51 + e)) = _
    rw [Bool.false_xor, Nat.mul_comm, show (4503599627370496 : Nat) = 2 ^ 52 by decide, nearest_shift, ← nearest_exact ny (by omega)]
    exact congrArg some (congrArg (double.nearest s m) (by omega))

end Go.Proofs.Qxb6628154a.Fl
