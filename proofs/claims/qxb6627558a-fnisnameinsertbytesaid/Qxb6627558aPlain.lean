/-
  PLAIN FACTS FOR THE SEAT b6627558a: names, and the alphabet that is counted. No Go in sight.
-/
namespace Go.Proofs.Qxb6627558a.Nm

/-- Is the byte c one of a name's? -/
def okc (c : UInt8) : Bool := decide (97 ≤ c.toNat ∧ c.toNat ≤ 122 ∨ 48 ≤ c.toNat ∧ c.toNat ≤ 57 ∨ c.toNat = 45 ∨ c.toNat = 95)

/-- Is it a name? -/
def nameB (l : List UInt8) : Bool := !l.isEmpty && l.all okc

/-- The alphabet, as the law lists it. -/
def alph : List UInt8 := [97, 98, 99, 100, 101, 102, 103, 104, 105, 106, 107, 108, 109, 110, 111, 112, 113, 114, 115, 116, 117, 118, 119, 120, 121, 122, 48, 49, 50, 51, 52, 53, 54, 55, 56, 57, 45, 95]

/-- How often the letters of A stand in l, added up. -/
def tot (A l : List UInt8) : Nat := (A.map fun a => l.count a).sum

theorem count_nat : ∀ n, n < 256 → ((alph.map UInt8.toNat).count n) = if (97 ≤ n ∧ n ≤ 122 ∨ 48 ≤ n ∧ n ≤ 57 ∨ n = 45 ∨ n = 95) then 1 else 0 := by decide +kernel

theorem count_map_toNat (A : List UInt8) (c : UInt8) : (A.map UInt8.toNat).count c.toNat = A.count c := by
  induction A with
  | nil => rfl
  | cons a A ih =>
    simp only [List.map_cons, List.count_cons, ih]
    congr 1
    by_cases h : a = c
    · subst h; simp
    · have h' : ¬ a.toNat = c.toNat := fun e => h (UInt8.toNat_inj.1 e)
      simp [h, h']

theorem count_alph (c : UInt8) : alph.count c = if okc c then 1 else 0 := by
  rw [← count_map_toNat, count_nat c.toNat c.toNat_lt]
  simp [okc]

theorem tot_nil (A : List UInt8) : tot A [] = 0 := by
  induction A with
  | nil => rfl
  | cons a A ih => simpa [tot] using ih

theorem tot_cons (A : List UInt8) (c : UInt8) (l : List UInt8) : tot A (c :: l) = tot A l + A.count c := by
  induction A with
  | nil => rfl
  | cons a A ih =>
    simp only [tot, List.map_cons, List.sum_cons, List.count_cons] at ih ⊢
    rw [ih]
    by_cases h : a = c
    · subst h; simp; omega
    · have h' : ¬ c = a := fun e => h e.symm
      simp [h, h']; omega

theorem tot_alph (l : List UInt8) : tot alph l = l.countP okc := by
  induction l with
  | nil => exact tot_nil _
  | cons c l ih => rw [tot_cons, ih, count_alph, List.countP_cons]

/-- THE LAW: a name is a string, not empty, all of whose bytes are counted. -/
theorem name_iff_counts (l : List UInt8) : nameB l = (decide (0 < l.length) && decide (tot alph l = l.length)) := by
  rw [tot_alph, Bool.eq_iff_iff]
  simp only [nameB, Bool.and_eq_true, Bool.not_eq_true', List.isEmpty_eq_false_iff, List.all_eq_true, decide_eq_true_eq, List.countP_eq_length]
  constructor
  · rintro ⟨h, k⟩
    exact ⟨List.length_pos_iff.2 h, k⟩
  · rintro ⟨h, k⟩
    exact ⟨List.length_pos_iff.1 h, k⟩

theorem tot_snoc (A : List UInt8) (a : UInt8) (l : List UInt8) : tot (A ++ [a]) l = tot A l + l.count a := by
  simp [tot]

theorem count_snoc (l : List UInt8) (c a : UInt8) : (l ++ [c]).count a = l.count a + if c = a then 1 else 0 := by
  rw [List.count_append, List.count_singleton]
  simp [beq_iff_eq]

/-! ### The byte put in -/
theorem name_one (c : UInt8) : nameB [c] = okc c := by simp [nameB]

theorem name_insert (a b : List UInt8) (c : UInt8) : nameB (a ++ [c] ++ b) = (((a ++ b).isEmpty || nameB (a ++ b)) && okc c) := by
  have e : (a ++ [c] ++ b).isEmpty = false := by simp
  rw [Bool.eq_iff_iff]
  by_cases h : (a ++ b).isEmpty = true
  · have ha : a = [] := by simp at h; exact h.1
    have hb : b = [] := by simp at h; exact h.2
    subst ha; subst hb
    simp [nameB]
  · have h' : (a ++ b).isEmpty = false := by simpa using h
    simp only [nameB, e, h', Bool.not_false, Bool.true_and, Bool.false_or, List.all_append, Bool.and_eq_true, List.all_cons, List.all_nil, Bool.and_true]
    constructor
    · rintro ⟨⟨x, y⟩, z⟩; exact ⟨⟨x, z⟩, y⟩
    · rintro ⟨⟨x, z⟩, y⟩; exact ⟨⟨x, y⟩, z⟩

/-- Found in the list: c is a letter of the alphabet. -/
theorem contains_alph (c : UInt8) : decide (c ∈ alph) = okc c := by
  have h := count_alph c
  by_cases hc : okc c = true
  · rw [hc] at h
    have : c ∈ alph := List.count_pos_iff.1 (by simp at h; omega)
    simp [this, hc]
  · have hf : okc c = false := by simpa using hc
    rw [hf] at h
    have : ¬ c ∈ alph := fun m => by have := List.count_pos_iff.2 m; simp at h; omega
    simp [this, hf]

end Go.Proofs.Qxb6627558a.Nm
