/-
  PLAIN FACTS ON DOUBLES FOR THE SEAT b6628154a (over Ieee, no Go in sight): a number of normal size, doubled, is the same significand one place higher; rounding goes along with that.
-/
import Ieee.Arith
namespace Go.Proofs.Qxb6628154a.Fl
open Ieee

theorem lp : double.leastPlace = -1074 := by decide
theorem fb : double.fractionBits = 52 := rfl
theorem bin : double.binade = 4503599627370496 := by decide
theorem inf : double.infRung = 9218868437227405312 := by decide
theorem sw : double.signWeight = 9223372036854775808 := by decide

/-- The rung of the significand m (with its leading one) at place e. -/
def rung (m : Nat) (e : Int) : Nat := (e + 1074).toNat * 4503599627370496 + m

/-- The word x is the normal number of sign s, significand m, place e. -/
def Norm (x : Nat) (s : Bool) (m : Nat) (e : Int) : Prop :=
  x = double.word s (rung m e) ∧ 4503599627370496 ≤ m ∧ m < 9007199254740992 ∧ -1074 ≤ e ∧ e ≤ 971

/-- The word x is a zero. -/
def Zero (x : Nat) : Prop := ∃ s, x = double.word s 0

theorem read_norm {x : Nat} {s : Bool} {m : Nat} {e : Int} (h : Norm x s m e) : double.read x = .number s m e := by
  obtain ⟨rfl, h1, h2, h3, h4⟩ := h
  obtain ⟨k, rfl⟩ : ∃ k : Nat, e = (k : Int) - 1074 := ⟨(e + 1074).toNat, by omega⟩
  have er : rung m ((k : Int) - 1074) = k * 4503599627370496 + m := by unfold rung; congr 2; omega
  rw [er]
  unfold Format.read Format.word
  simp only [lp, bin, inf, sw]
  cases s
  · simp only [Bool.false_eq_true, if_false]
    have e1 : (k * 4503599627370496 + m) / 9223372036854775808 % 2 = 0 := by omega
    have e2 : (k * 4503599627370496 + m) % 9223372036854775808 = k * 4503599627370496 + m := by omega
    have e3 : (k * 4503599627370496 + m) / 4503599627370496 = k + 1 := by omega
    have e4 : 4503599627370496 + (k * 4503599627370496 + m) % 4503599627370496 = m := by omega
    rw [e1, e2, if_neg (by omega), if_pos (by omega), e3, e4]
    congr 1
  · simp only [if_true]
    have e1 : (9223372036854775808 + (k * 4503599627370496 + m)) / 9223372036854775808 % 2 = 1 := by omega
    have e2 : (9223372036854775808 + (k * 4503599627370496 + m)) % 9223372036854775808 = k * 4503599627370496 + m := by omega
    have e3 : (k * 4503599627370496 + m) / 4503599627370496 = k + 1 := by omega
    have e4 : 4503599627370496 + (k * 4503599627370496 + m) % 4503599627370496 = m := by omega
    rw [e1, e2, if_neg (by omega), if_pos (by omega), e3, e4]
    congr 1

theorem read_zero (s : Bool) : double.read (double.word s 0) = .number s 0 (-1074) := by
  cases s <;> decide

theorem log2_two_mul {n : Nat} (h : n ≠ 0) : (2 * n).log2 = n.log2 + 1 := by
  rw [Nat.log2_eq_iff (by omega)]
  have h1 := Nat.log2_self_le h
  have h2 := @Nat.lt_log2_self n
  rw [Nat.pow_succ, Nat.pow_succ]
  rw [Nat.pow_succ] at h2
  omega

/-- To drop one digit more of twice the number. -/
theorem cut_double (s : Bool) (n d : Nat) (h : n ≠ 0) : Toward.even.cut s (2 * n) (d + 1) = Toward.even.cut s n d := by
  unfold Toward.cut
  have e : 1 <<< min (d + 1) ((2 * n).log2 + 2) = 2 * (1 <<< min d (n.log2 + 2)) := by
    rw [log2_two_mul h, Nat.shiftLeft_eq, Nat.shiftLeft_eq, Nat.one_mul, Nat.one_mul]
    have : min (d + 1) (n.log2 + 1 + 2) = min d (n.log2 + 2) + 1 := by omega
    rw [this, Nat.pow_succ, Nat.mul_comm]
  dsimp only
  rw [e]
  have hp : 0 < 1 <<< min d (n.log2 + 2) := by rw [Nat.shiftLeft_eq, Nat.one_mul]; exact Nat.two_pow_pos _
  generalize 1 <<< min d (n.log2 + 2) = g at hp
  rw [Nat.mul_div_mul_left _ _ (by omega : 0 < 2), Nat.mul_mod_mul_left]
  have e1 : decide (2 * g < 2 * (2 * (n % g))) = decide (g < 2 * (n % g)) := by
    rw [Bool.eq_iff_iff]; simp only [decide_eq_true_eq]; omega
  have e2 : (2 * g == 2 * (2 * (n % g))) = (g == 2 * (n % g)) := by
    rw [Bool.eq_iff_iff]; simp only [beq_iff_eq]; omega
  rw [e1, e2]

theorem cut_none (s : Bool) (n : Nat) : Toward.even.cut s n 0 = n := by
  unfold Toward.cut
  simp [Nat.mod_one]

/-- The nearest word hangs on the value alone. -/
theorem nearest_double (s : Bool) (m : Nat) (p : Int) : double.nearest s (2 * m) p = double.nearest s m (p + 1) := by
  by_cases h : m = 0
  · subst h; simp [Format.nearest]
  unfold Format.nearest
  rw [if_neg (by omega), if_neg h]
  dsimp only
  rw [log2_two_mul h]
  have el : max (p + ((m.log2 + 1 : Nat) : Int) - (double.fractionBits : Int)) double.leastPlace = max (p + 1 + (m.log2 : Int) - (double.fractionBits : Int)) double.leastPlace := by
    congr 1; omega
  rw [el]
  generalize max (p + 1 + (m.log2 : Int) - (double.fractionBits : Int)) double.leastPlace = last
  congr 3
  by_cases hc : last ≤ p
  · have a1 : (p + 1 - last).toNat = (p - last).toNat + 1 := by omega
    have a2 : (last - p).toNat = 0 := by omega
    have a3 : (last - (p + 1)).toNat = 0 := by omega
    rw [a1, a2, a3, cut_none, cut_none, Nat.shiftLeft_eq, Nat.shiftLeft_eq, Nat.pow_succ]
    rw [Nat.mul_comm 2 m, Nat.mul_assoc, Nat.mul_comm 2]
  · have a1 : (p + 1 - last).toNat = 0 := by omega
    have a2 : (p - last).toNat = 0 := by omega
    have a3 : (last - p).toNat = (last - (p + 1)).toNat + 1 := by omega
    rw [a1, a2, a3, Nat.shiftLeft_zero, Nat.shiftLeft_zero, cut_double _ _ _ h]

theorem nearest_shift (s : Bool) (m : Nat) : ∀ (k : Nat) (p : Int), double.nearest s (m * 2 ^ k) p = double.nearest s m (p + k)
  | 0, p => by simp
  | k + 1, p => by
    have e : m * 2 ^ (k + 1) = 2 * (m * 2 ^ k) := by rw [Nat.pow_succ, ← Nat.mul_assoc, Nat.mul_comm]
    rw [e, nearest_double, nearest_shift s m k (p + 1)]
    congr 1; omega

/-- What is kept of the number M: its first 53 digits, rounded. -/
def kept (s : Bool) (M : Nat) : Nat := Toward.even.cut s (M <<< (52 - M.log2)) (M.log2 - 52)

theorem cut_bd (s : Bool) (n d : Nat) : n / 2 ^ min d (n.log2 + 2) ≤ Toward.even.cut s n d ∧ Toward.even.cut s n d ≤ n / 2 ^ min d (n.log2 + 2) + 1 := by
  unfold Toward.cut
  dsimp only
  rw [Nat.shiftLeft_eq, Nat.one_mul]
  generalize (decide (2 ^ min d (n.log2 + 2) < 2 * (n % 2 ^ min d (n.log2 + 2))) || 2 ^ min d (n.log2 + 2) == 2 * (n % 2 ^ min d (n.log2 + 2)) && n / 2 ^ min d (n.log2 + 2) % 2 == 1) = b
  cases b <;> simp

theorem kept_bd (s : Bool) (M : Nat) (h : M ≠ 0) : 4503599627370496 ≤ kept s M ∧ kept s M ≤ 9007199254740992 := by
  have h1 := Nat.log2_self_le h
  have h2 := @Nat.lt_log2_self M
  unfold kept
  by_cases hc : M.log2 ≤ 52
  · have e : M.log2 - 52 = 0 := by omega
    rw [e, cut_none, Nat.shiftLeft_eq]
    have a1 : 2 ^ M.log2 * 2 ^ (52 - M.log2) = 4503599627370496 := by rw [← Nat.pow_add]; rw [show M.log2 + (52 - M.log2) = 52 by omega]
    have a2 : 2 ^ (M.log2 + 1) * 2 ^ (52 - M.log2) = 9007199254740992 := by rw [← Nat.pow_add]; rw [show M.log2 + 1 + (52 - M.log2) = 53 by omega]
    have b1 := Nat.mul_le_mul_right (2 ^ (52 - M.log2)) h1
    have b2 := Nat.mul_le_mul_right (2 ^ (52 - M.log2)) (Nat.le_of_lt h2)
    omega
  · have e : 52 - M.log2 = 0 := by omega
    rw [e, Nat.shiftLeft_zero]
    have hb := cut_bd s M (M.log2 - 52)
    rw [show min (M.log2 - 52) (M.log2 + 2) = M.log2 - 52 by omega] at hb
    have hp : 0 < 2 ^ (M.log2 - 52) := Nat.two_pow_pos _
    have a1 : 4503599627370496 ≤ M / 2 ^ (M.log2 - 52) := by
      rw [Nat.le_div_iff_mul_le hp]
      have : 4503599627370496 * 2 ^ (M.log2 - 52) = 2 ^ M.log2 := by
        rw [show (4503599627370496 : Nat) = 2 ^ 52 by decide, ← Nat.pow_add]; rw [show 52 + (M.log2 - 52) = M.log2 by omega]
      omega
    have a2 : M / 2 ^ (M.log2 - 52) < 9007199254740992 := by
      rw [Nat.div_lt_iff_lt_mul hp]
      have : 9007199254740992 * 2 ^ (M.log2 - 52) = 2 ^ (M.log2 + 1) := by
        rw [show (9007199254740992 : Nat) = 2 ^ 53 by decide, ← Nat.pow_add]; rw [show 53 + (M.log2 - 52) = M.log2 + 1 by omega]
      omega
    omega

theorem nearest_kept (s : Bool) (M : Nat) (p : Int) (h : M ≠ 0) (h1 : -1074 ≤ p + M.log2 - 52) (h2 : p + M.log2 - 52 ≤ 970) :
    double.nearest s M p = double.word s ((p + M.log2 - 52 + 1074).toNat * 4503599627370496 + kept s M) := by
  have hk := kept_bd s M h
  unfold Format.nearest
  rw [if_neg h]
  dsimp only
  rw [lp, bin, inf, fb]
  have e : max (p + (M.log2 : Int) - ((52 : Nat) : Int)) (-1074) = p + M.log2 - 52 := by omega
  rw [e]
  have a1 : (p - (p + (M.log2 : Int) - 52)).toNat = 52 - M.log2 := by omega
  have a2 : (p + (M.log2 : Int) - 52 - p).toNat = M.log2 - 52 := by omega
  rw [a1, a2]
  have a3 : (p + (M.log2 : Int) - 52 - -1074).toNat = (p + (M.log2 : Int) - 52 + 1074).toNat := by omega
  have a4 : (p + (M.log2 : Int) - 52 + 1074).toNat ≤ 2044 := by omega
  have a5 : Toward.even.cut s (M <<< (52 - M.log2)) (M.log2 - 52) = kept s M := rfl
  rw [a3, a5]
  rw [Nat.min_eq_left (by omega)]

/-- ROUNDING A NUMBER AND ITS DOUBLE, far from both ends: one significand, one place apart. -/
theorem nearest_norm (s : Bool) (M : Nat) (p : Int) (h : M ≠ 0) (h1 : -1074 ≤ p + M.log2 - 52) (h2 : p + M.log2 - 52 ≤ 969) :
    ∃ m e, Norm (double.nearest s M p) s m e ∧ Norm (double.nearest s M (p + 1)) s m (e + 1) ∧ p + M.log2 - 52 ≤ e ∧ e ≤ p + M.log2 - 52 + 1 := by
  have hk := kept_bd s M h
  rw [nearest_kept s M p h h1 (by omega), nearest_kept s M (p + 1) h (by omega) (by omega)]
  obtain ⟨k, hk'⟩ : ∃ k : Nat, p + M.log2 - 52 = (k : Int) - 1074 := ⟨(p + M.log2 - 52 + 1074).toNat, by omega⟩
  have e2 : p + 1 + M.log2 - 52 = (k : Int) - 1074 + 1 := by omega
  rw [e2, hk']
  by_cases hc : kept s M < 9007199254740992
  · refine ⟨kept s M, (k : Int) - 1074, ⟨rfl, hk.1, hc, by omega, by omega⟩, ⟨rfl, hk.1, hc, by omega, by omega⟩, by omega, by omega⟩
  · have ek : kept s M = 9007199254740992 := by omega
    rw [ek]
    refine ⟨4503599627370496, (k : Int) - 1074 + 1, ⟨?_, by omega, by omega, by omega, by omega⟩, ⟨?_, by omega, by omega, by omega, by omega⟩, by omega, by omega⟩
    · exact congrArg (double.word s) (by unfold rung; omega)
    · exact congrArg (double.word s) (by unfold rung; omega)

/-- A normal number is its own nearest word. -/
theorem log2_sig {m : Nat} (h1 : 4503599627370496 ≤ m) (h2 : m < 9007199254740992) : m.log2 = 52 := by
  rw [Nat.log2_eq_iff (by omega)]
  exact ⟨by omega, by omega⟩

theorem nearest_exact {x : Nat} {s : Bool} {m : Nat} {e : Int} (h : Norm x s m e) (he : e ≤ 970) : double.nearest s m e = x := by
  obtain ⟨rfl, h1, h2, h3, h4⟩ := h
  have hl := log2_sig h1 h2
  rw [nearest_kept s m e (by omega) (by omega) (by omega), hl]
  have : kept s m = m := by
    unfold kept
    rw [hl]
    simp [cut_none]
  rw [this]
  exact congrArg (double.word s) (by unfold rung; omega)

end Go.Proofs.Qxb6628154a.Fl
