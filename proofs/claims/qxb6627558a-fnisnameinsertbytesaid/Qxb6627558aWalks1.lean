import Derived.Test.Qxb6627558aRows
import Derived.Test.Qxb6627558aPlain
import Derived.WalkKit
import Derived.ProofKit
import Derived.OpenShut
import Derived.Below
import Derived.WalkSpells
import Derived.WalkLawsBesides
import Derived.Outline
import Derived.Deep.QuietTactic
import Derived.BigQuiet
import Derived.Deep.Light
namespace Go.Proofs.Qxb6627558a.Nm
open Go.ChangeShapes Go.WideShapes Go.ChangeAt Go.RowKit

theorem hid {p : Prop} (h : p) : Hid p := h
theorem ret_bool {a b : Bool} (h : a = b) : Ending.returned (.bool a) = .returned (.bool b) := by rw [h]

theorem take_snoc (s : ByteArray) (k : Nat) (h : k < s.size) : s.data.toList.take (k + 1) = s.data.toList.take k ++ [s[k]] := by
  rw [List.take_succ_eq_append_getElem (by simpa using h)]; rfl

theorem okc_iff (c : UInt8) : okc c = true ↔ (97 ≤ (c.toNat : Int) ∧ (c.toNat : Int) ≤ 122 ∨ 48 ≤ (c.toNat : Int) ∧ (c.toNat : Int) ≤ 57 ∨ (c.toNat : Int) = 45 ∨ (c.toNat : Int) = 95) := by
  simp only [okc, decide_eq_true_eq]
  omega

theorem all_snoc {l : List UInt8} {c : UInt8} (h : l.all okc = true) (hc : okc c = true) : (l ++ [c]).all okc = true := by simp [List.all_append, h, hc]

theorem toList_eq (s : ByteArray) : s.toList = s.data.toList := Go.ByteArray.toList_eq s

theorem not_name (s : ByteArray) (k : Nat) (h : k < s.size) (hc : okc s[k] = false) : nameB s.data.toList = false := by
  have hm : s[k] ∈ s.data.toList := by
    have : s[k] = s.data.toList[k]'(by simpa using h) := rfl
    rw [this]
    exact List.getElem_mem _
  rw [nameB, Bool.and_eq_false_iff]
  right
  rw [Bool.eq_false_iff]
  intro hall
  have := List.all_eq_true.1 hall _ hm
  rw [hc] at this
  cases this

theorem is_name (s : ByteArray) (h0 : 0 < s.size) (h : s.data.toList.all okc = true) : nameB s.data.toList = true := by
  have : s.data.toList.isEmpty = false := by
    cases e : s.data.toList with
    | nil => have hh : s.data.toList.length = s.size := by simp
             rw [e, List.length_nil] at hh; omega
    | cons _ _ => rfl
  simp [nameB, this, h]

/-! ### permission.IsName -/
theorem name_empty (s : ByteArray) (w : World) (hs : s.size = 0) :
    Calls Try.prog 6 #[.string s] w fun e w' => e = .returned (.bool (nameB s.data.toList)) ∧ w' = w := by
  have hl : s.data.toList = [] := List.eq_nil_of_length_eq_zero (by simpa using hs)
  have he : s.toList.isEmpty = true := by rw [toList_eq, hl]; rfl
  have HL := hid hl
  clear hl
  go_enter Try.func6, Try.ntmps6
  go_wp2
  go_ret
  exact ⟨ret_bool (by rw [HL.out]; rfl), rfl⟩

set_option maxHeartbeats 400000 in
theorem name_full (s : ByteArray) (w : World) (hs : s.size ≤ maxLen) (h0 : 0 < s.size) :
    Calls Try.prog 6 #[.string s] w fun e w' => e = .returned (.bool (nameB s.data.toList)) ∧ w' = w := by
  unfold maxLen at hs
  have he : s.toList.isEmpty = false := by
    rw [toList_eq]
    cases e : s.data.toList with
    | nil => have hh : s.data.toList.length = s.size := by simp
             rw [e, List.length_nil] at hh; omega
    | cons _ _ => rfl
  go_enter Try.func6, Try.ntmps6
  go_wp2
  go_loop [3, 4] (fun i _ => ∃ k : Nat, k ≤ s.size ∧ i = .int .i64 k ∧ (s.data.toList.take k).all okc = true) (fun i _ => s.size - (intOf i).toNat)
  case atStart => exact ⟨0, Nat.zero_le _, rfl, rfl⟩
  case round =>
    obtain ⟨k, hk, rfl, hall⟩ := hrel
    have HA := hid hall
    clear hall
    by_cases hlt : k < s.size
    · have HT := hid (take_snoc s k hlt)
      have HO := hid (okc_iff s[k])
      have HN := hid (not_name s k hlt)
      go_wp2
      all_goals first
        | (go_round
           case rel =>
             refine ⟨k + 1, by omega, by go_num, ?_⟩
             rw [HT.out]
             refine all_snoc HA.out (HO.out.2 ?_)
             go_light
             simp only [Bool.not_eq_false', decide_eq_true_eq, beq_iff_eq] at *
             omega
           case measure => simp [intOf]; omega)
        | (go_ret
           refine ⟨ret_bool (HN.out ?_).symm, rfl⟩
           rw [Bool.eq_false_iff]
           intro hok
           have hok' := HO.out.1 hok
           go_light
           simp only [Bool.not_eq_true', decide_eq_false_iff_not, beq_eq_false_iff_ne, ne_eq] at *
           omega)
    · have HY := hid (is_name s h0)
      have hkk : k = s.size := by omega
      subst hkk
      have HT : Hid (s.data.toList.take s.size = s.data.toList) := List.take_of_length_le (by simp)
      go_wp2
      go_ret
      refine ⟨ret_bool (HY.out ?_).symm, rfl⟩
      have := HA.out
      rw [HT.out] at this
      exact this

theorem name_any (s : ByteArray) (w : World) (hs : s.size ≤ maxLen) :
    Calls Try.prog 6 #[.string s] w fun e w' => e = .returned (.bool (nameB s.data.toList)) ∧ w' = w := by
  by_cases h0 : s.size = 0
  · exact name_empty s w h0
  · exact name_full s w hs (by omega)

end Go.Proofs.Qxb6627558a.Nm
