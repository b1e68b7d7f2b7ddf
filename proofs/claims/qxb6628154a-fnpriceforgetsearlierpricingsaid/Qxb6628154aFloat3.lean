/-
  PLAIN FACTS ON DOUBLES FOR THE SEAT b6628154a: the prices that the law lets by; a kind's cost; its sign.
-/
import Derived.Test.Qxb6628154aFloat2
namespace Go.Proofs.Qxb6628154a.Fl
open Ieee

theorem word_cases (x : Nat) (h : x < 18446744073709551616) :
    Zero x ∨ (∃ s m, 0 < m ∧ m < 4503599627370496 ∧ double.read x = .number s m (-1074)) ∨ (∃ s m e, Norm x s m e) ∨ (∃ s, double.read x = .infinity s) ∨ (∃ s f, double.read x = .nan s f) := by
  obtain ⟨s, r, hr, rfl⟩ : ∃ s r, r < 9223372036854775808 ∧ x = double.word s r := by
    by_cases hs : x < 9223372036854775808
    · exact ⟨false, x, hs, by simp [Format.word]⟩
    · exact ⟨true, x - 9223372036854775808, by omega, by simp [Format.word, sw]; omega⟩
  have hread : double.read (double.word s r) = (if r < 4503599627370496 then Datum.number s r (-1074)
      else if r < 9218868437227405312 then .number s (4503599627370496 + r % 4503599627370496) (-1074 + (r / 4503599627370496 - 1 : Nat))
      else if r = 9218868437227405312 then .infinity s else .nan s (r - 9218868437227405312)) := by
    unfold Format.read Format.word
    simp only [lp, bin, inf, sw]
    cases s
    · simp only [Bool.false_eq_true, if_false]
      have e1 : r / 9223372036854775808 % 2 = 0 := by omega
      have e2 : r % 9223372036854775808 = r := by omega
      rw [e1, e2]; rfl
    · simp only [if_true]
      have e1 : (9223372036854775808 + r) / 9223372036854775808 % 2 = 1 := by omega
      have e2 : (9223372036854775808 + r) % 9223372036854775808 = r := by omega
      rw [e1, e2]; rfl
  by_cases h0 : r = 0
  · subst h0; exact .inl ⟨s, rfl⟩
  by_cases h1 : r < 4503599627370496
  · rw [if_pos h1] at hread
    exact .inr (.inl ⟨s, r, by omega, h1, hread⟩)
  by_cases h2 : r < 9218868437227405312
  · refine .inr (.inr (.inl ⟨s, 4503599627370496 + r % 4503599627370496, -1074 + ((r / 4503599627370496 - 1 : Nat) : Int), ?_, by omega, by omega, by omega, by omega⟩))
    refine congrArg (double.word s) ?_
    unfold rung
    have : (-1074 + ((r / 4503599627370496 - 1 : Nat) : Int) + 1074).toNat = r / 4503599627370496 - 1 := by omega
    rw [this]
    omega
  rw [if_neg h1, if_neg h2] at hread
  by_cases h3 : r = 9218868437227405312
  · rw [if_pos h3] at hread
    exact .inr (.inr (.inr (.inl ⟨s, hread⟩)))
  · rw [if_neg h3] at hread
    exact .inr (.inr (.inr (.inr ⟨s, _, hread⟩)))

/-! ### Comparisons -/
theorem order_number {x y : Nat} {s t : Bool} {m n : Nat} {i j : Int} (hx : double.read x = .number s m i) (hy : double.read y = .number t n j) :
    double.order x y = some (compare (signed s m (i - min i j).toNat) (signed t n (j - min i j).toNat)) := by
  unfold Format.order; rw [hx, hy]; rfl

theorem order_inf {x y : Nat} {s t : Bool} {n : Nat} {j : Int} (hx : double.read x = .infinity s) (hy : double.read y = .number t n j) :
    double.order x y = some (if s then .lt else .gt) := by
  unfold Format.order; rw [hx, hy]; rfl

theorem order_nan {x y : Nat} {s : Bool} {f : Nat} (hx : double.read x = .nan s f) : double.order x y = none := by
  unfold Format.order; rw [hx]; rfl

theorem pow_gap {m n a : Nat} (h1 : m < 9007199254740992) (h2 : 4503599627370496 ≤ n) (h : n * 2 ^ a ≤ m) : a = 0 := by
  rcases Nat.eq_zero_or_pos a with h0 | h0
  · exact h0
  · have : 2 ≤ 2 ^ a := by
      have := Nat.pow_le_pow_right (n := 2) (by omega) h0
      simpa using this
    have := Nat.mul_le_mul h2 this
    omega

/-- At least c, and c of normal size: x is positive, of normal size, its place no lower. -/
theorem ge_norm {s : Bool} {m n : Nat} {i j : Int} (hm : m < 9007199254740992) (h1 : 4503599627370496 ≤ n)
    (h : signed false n (j - min i j).toNat ≤ signed s m (i - min i j).toNat) : s = false ∧ j ≤ i := by
  have hp : 0 < n * 2 ^ (j - min i j).toNat := Nat.mul_pos (by omega) (Nat.two_pow_pos _)
  rw [signed_pos] at h
  cases s
  · refine ⟨rfl, ?_⟩
    rw [signed_pos] at h
    by_cases hc : j ≤ i
    · exact hc
    · have e1 : (i - min i j).toNat = 0 := by omega
      rw [e1, Nat.pow_zero, Nat.mul_one] at h
      have := pow_gap hm h1 (by omega : n * 2 ^ (j - min i j).toNat ≤ m)
      omega
  · rw [signed_neg] at h; omega

theorem le_norm {m n : Nat} {i j : Int} (hm : 4503599627370496 ≤ m) (h1 : n < 9007199254740992)
    (h : signed false m (i - min i j).toNat ≤ signed false n (j - min i j).toNat) : i ≤ j := by
  rw [signed_pos, signed_pos] at h
  by_cases hc : i ≤ j
  · exact hc
  · have e1 : (j - min i j).toNat = 0 := by omega
    rw [e1, Nat.pow_zero, Nat.mul_one] at h
    have := pow_gap h1 hm (by omega : m * 2 ^ (i - min i j).toNat ≤ n)
    omega

def c1 : Nat := 1614679632300144556
def c2 : Nat := 4786511204640096256
def c3 : Nat := 10838051669154920364
def c4 : Nat := 14009883241494872064
theorem read_c1 : double.read c1 = .number false 6894565328877484 (-717) := by decide +kernel
theorem read_c2 : double.read c2 = .number false 8192000000000000 (-13) := by decide +kernel
theorem read_c3 : double.read c3 = .number true 6894565328877484 (-717) := by decide +kernel
theorem read_c4 : double.read c4 = .number true 8192000000000000 (-13) := by decide +kernel
theorem read_0 : double.read 0 = .number false 0 (-1074) := by decide +kernel

theorem signed_flip (m k : Nat) : signed true m k = -signed false m k := by rw [signed_pos, signed_neg]

theorem ge_norm_neg {s : Bool} {m n : Nat} {i j : Int} (hm : m < 9007199254740992) (h1 : 4503599627370496 ≤ n)
    (h : signed s m (i - min i j).toNat ≤ signed true n (j - min i j).toNat) : s = true ∧ j ≤ i := by
  have hp : 0 < n * 2 ^ (j - min i j).toNat := Nat.mul_pos (by omega) (Nat.two_pow_pos _)
  cases s
  · rw [signed_pos, signed_neg] at h; omega
  · rw [signed_flip, signed_flip] at h
    exact ⟨rfl, (ge_norm (s := false) hm h1 (by omega)).2⟩

theorem le_norm_neg {m n : Nat} {i j : Int} (hm : 4503599627370496 ≤ m) (h1 : n < 9007199254740992)
    (h : signed true n (j - min i j).toNat ≤ signed true m (i - min i j).toNat) : i ≤ j := by
  rw [signed_flip, signed_flip] at h
  exact le_norm hm h1 (by omega)

def geB (x c : Nat) : Bool := double.order x c == some .gt || double.order x c == some .eq
def leB (x c : Nat) : Bool := double.order x c == some .lt || double.order x c == some .eq
def eqB (x c : Nat) : Bool := double.order x c == some .eq

/-- What zzPriceOK answers. -/
def priceB (x : Nat) : Bool := eqB x 0 || (geB x c1 && leB x c2) || (leB x c3 && geB x c4)

theorem ge_of {x c : Nat} {s t : Bool} {m n : Nat} {i j : Int} (hx : double.read x = .number s m i) (hc : double.read c = .number t n j) (h : geB x c = true) :
    signed t n (j - min i j).toNat ≤ signed s m (i - min i j).toNat := by
  simp only [geB, order_number hx hc, Bool.or_eq_true, beq_iff_eq, Option.some.injEq, Int.compare_eq_gt, Int.compare_eq_eq] at h
  omega
theorem le_of {x c : Nat} {s t : Bool} {m n : Nat} {i j : Int} (hx : double.read x = .number s m i) (hc : double.read c = .number t n j) (h : leB x c = true) :
    signed s m (i - min i j).toNat ≤ signed t n (j - min i j).toNat := by
  simp only [leB, order_number hx hc, Bool.or_eq_true, beq_iff_eq, Option.some.injEq, Int.compare_eq_lt, Int.compare_eq_eq] at h
  omega
theorem eq_zero_of {x : Nat} {s : Bool} {m : Nat} {i : Int} (hx : double.read x = .number s m i) (h : eqB x 0 = true) : m = 0 := by
  simp only [eqB, order_number hx read_0, beq_iff_eq, Option.some.injEq, Int.compare_eq_eq, signed_zero] at h
  by_cases h0 : m = 0
  · exact h0
  · exact absurd h (signed_lt s m _ h0).1

theorem price_fin {x : Nat} (hx : x < 18446744073709551616) (h : priceB x = true) : Zero x ∨ ∃ s m e, Norm x s m e ∧ -717 ≤ e ∧ e ≤ -13 := by
  simp only [priceB, Bool.or_eq_true, Bool.and_eq_true] at h
  rcases word_cases x hx with hz | ⟨s, m, h0, hm, hr⟩ | ⟨s, m, e, hn⟩ | ⟨s, hr⟩ | ⟨s, f, hr⟩
  · exact .inl hz
  · exfalso
    rcases h with (h | ⟨h, _⟩) | ⟨h, _⟩
    · have := eq_zero_of hr h; omega
    · have := (ge_norm (by omega) (by omega) (ge_of hr read_c1 h)).2; omega
    · have := (ge_norm_neg (by omega) (by omega) (le_of hr read_c3 h)).2; omega
  · have hr := read_norm hn
    right
    refine ⟨s, m, e, hn, ?_⟩
    rcases h with (h | ⟨h, k⟩) | ⟨h, k⟩
    · have := eq_zero_of hr h; have := hn.2.1; omega
    · obtain ⟨hs, h1⟩ := ge_norm hn.2.2.1 (by omega) (ge_of hr read_c1 h)
      subst hs
      have h2 := le_norm hn.2.1 (by omega) (le_of hr read_c2 k)
      omega
    · obtain ⟨hs, h1⟩ := ge_norm_neg hn.2.2.1 (by omega) (le_of hr read_c3 h)
      subst hs
      have h2 := le_norm_neg hn.2.1 (by omega) (ge_of hr read_c4 k)
      omega
  · exfalso
    simp only [eqB, geB, leB, order_inf hr read_0, order_inf hr read_c1, order_inf hr read_c2, order_inf hr read_c3, order_inf hr read_c4] at h
    cases s <;> simp at h
  · exfalso
    simp only [eqB, geB, leB, order_nan hr] at h
    simp at h

/-! ### A kind's cost -/
/-- float64(t), as bits. -/
def ofInt (t : Int) : Nat := double.nearest (decide (t < 0)) t.natAbs 0

theorem fin_norm {x : Nat} {s : Bool} {m : Nat} {e : Int} (h : Norm x s m e) : Fin x := .inr ⟨s, m, e, h⟩

theorem ofInt_fin (t : Int) (h : t.natAbs ≤ 9223372036854775808) : Fin (ofInt t) := by
  by_cases h0 : t = 0
  · subst h0; exact .inl int_zero
  · obtain ⟨m, e, a, _⟩ := int_pair t h0 h
    exact .inr ⟨_, m, e, a⟩

/-- A count and its double, priced alike. -/
theorem cost_pair (t : Int) (p : Nat) (ht : t.natAbs ≤ 4611686018427387904) (hp : Zero p ∨ ∃ s m e, Norm p s m e ∧ -717 ≤ e ∧ e ≤ -13) :
    ∃ a x b y, double.mul (ofInt t) p = some a ∧ double.div a million = some x ∧ double.mul (ofInt (2 * t)) p = some b ∧ double.div b million = some y ∧ Pair (-737) 49 x y := by
  rcases hp with hz | ⟨s, n, j, hn, hj1, hj2⟩
  · obtain ⟨a, ha, za⟩ := mul_zero_right (ofInt_fin t (by omega)) hz
    obtain ⟨b, hb, zb⟩ := mul_zero_right (ofInt_fin (2 * t) (by omega)) hz
    obtain ⟨x, hx, zx⟩ := div_zero za
    obtain ⟨y, hy, zy⟩ := div_zero zb
    exact ⟨a, x, b, y, ha, hx, hb, hy, .inl ⟨zx, zy⟩⟩
  · by_cases h0 : t = 0
    · subst h0
      obtain ⟨a, ha, za⟩ := mul_zero_left (x := ofInt 0) int_zero (fin_norm hn)
      obtain ⟨x, hx, zx⟩ := div_zero za
      exact ⟨a, x, a, x, ha, hx, ha, hx, .inl ⟨zx, zx⟩⟩
    · obtain ⟨m, e, u, v, l, r⟩ := int_pair t h0 (by omega)
      obtain ⟨a, b, M, E, ha, hb, na, nb, l2, r2⟩ := mul_pair u v hn (by omega) (by omega)
      obtain ⟨x, y, M', E', hx, hy, nx, ny, l3, r3⟩ := div_pair na nb (by omega) (by omega)
      exact ⟨a, x, b, y, ha, hx, hb, hy, .inr ⟨_, M', E', nx, ny, by omega, by omega⟩⟩

/-- The cost of a count at a good price: a zero where one of them is zero, else of the sign of their product. -/
theorem cost_sign (t : Int) (p : Nat) (ht : t.natAbs ≤ 9223372036854775808) (hp : Zero p ∨ ∃ s m e, Norm p s m e ∧ -717 ≤ e ∧ e ≤ -13) :
    ∃ a x, double.mul (ofInt t) p = some a ∧ double.div a million = some x ∧
      ((t = 0 ∧ Zero x) ∨ (Zero p ∧ Zero x) ∨ ∃ s m e m' e', t ≠ 0 ∧ Norm p s m e ∧ Norm x (decide (t < 0) ^^ s) m' e') := by
  rcases hp with hz | ⟨s, n, j, hn, hj1, hj2⟩
  · obtain ⟨a, ha, za⟩ := mul_zero_right (ofInt_fin t ht) hz
    obtain ⟨x, hx, zx⟩ := div_zero za
    exact ⟨a, x, ha, hx, .inr (.inl ⟨hz, zx⟩)⟩
  · by_cases h0 : t = 0
    · subst h0
      obtain ⟨a, ha, za⟩ := mul_zero_left (x := ofInt 0) int_zero (fin_norm hn)
      obtain ⟨x, hx, zx⟩ := div_zero za
      exact ⟨a, x, ha, hx, .inl ⟨rfl, zx⟩⟩
    · obtain ⟨m, e, u, v, l, r⟩ := int_pair t h0 ht
      obtain ⟨a, b, M, E, ha, hb, na, nb, l2, r2⟩ := mul_pair u v hn (by omega) (by omega)
      obtain ⟨x, y, M', E', hx, hy, nx, ny, l3, r3⟩ := div_pair na nb (by omega) (by omega)
      exact ⟨a, x, ha, hx, .inr (.inr ⟨s, n, j, M', E', h0, hn, nx⟩)⟩

/-- A normal number against zero. -/
theorem order_norm_zero {x : Nat} {s : Bool} {m : Nat} {e : Int} (hx : Norm x s m e) : double.order x 0 = some (if s then .lt else .gt) := by
  have hm : m ≠ 0 := by have := hx.2.1; omega
  rw [order_number (read_norm hx) read_0, signed_zero]
  have h := signed_lt s m (e - min e (-1074)).toNat hm
  cases s
  · have : 0 < signed false m (e - min e (-1074)).toNat := by have := of_decide_eq_false h.2; omega
    rw [Int.compare_eq_gt.2 this]; rfl
  · have : signed true m (e - min e (-1074)).toNat < 0 := of_decide_eq_true h.2
    rw [Int.compare_eq_lt.2 this]; rfl

theorem order_zero_0 {x : Nat} (hx : Zero x) : double.order x 0 = some .eq := order_zero hx ⟨false, by decide⟩

theorem Pair.wide {lo hi lo' hi' : Int} {x y : Nat} (h : Pair lo hi x y) (h1 : lo' ≤ lo) (h2 : hi ≤ hi') : Pair lo' hi' x y := by
  rcases h with h | ⟨s, m, e, a, b, c, d⟩
  · exact .inl h
  · exact .inr ⟨s, m, e, a, b, by omega, by omega⟩

theorem pair_self {lo hi : Int} {x y : Nat} (h : Pair lo hi x y) : double.order x x = some .eq := by
  rcases h with ⟨h, _⟩ | ⟨s, m, e, a, _⟩
  · exact order_zero h h
  · exact order_norm a

end Go.Proofs.Qxb6628154a.Fl
