import Derived.Test.Qxb6627558aRows
import Derived.Test.Qxb6627558aPlain
import Derived.WalkKit
import Derived.ProofKit
import Derived.OpenShut
import Derived.Below
import Derived.WalkSpells
import Derived.WalkLawsBesides
import Derived.Outline
import Derived.Deep.QuietTactic
import Derived.BigQuiet
import Derived.Deep.Light
import Derived.Test.Qxb6627558aWalks1
namespace Go.Proofs.Qxb6627558a.Nm
open Go.ChangeShapes Go.WideShapes Go.ChangeAt Go.RowKit

theorem law1_far (s : ByteArray) (w : World) (hs : s.size ≤ maxLen) (h : 1048576 < s.size) :
    Calls Try.prog 3 #[.string s] w fun e w' => e = .returned (.bool true) ∧ w' = w := by
  unfold maxLen at hs
  have h1 : (1048576 : Int) < s.size := by omega
  go_enter Try.func3, Try.ntmps3
  go_wp2
  go_ret
  exact ⟨rfl, rfl⟩

theorem zz_near (s : ByteArray) (w : World) (h : s.size ≤ 1048576) :
    Calls Try.prog 5 #[.string s] w fun e w' => e = .returned (.bool true) ∧ w = w' := by
  have h1 : (s.size : Int) ≤ 1048576 := by omega
  go_enter Try.func5, Try.ntmps5
  go_wp2
  go_ret
  exact ⟨rfl, rfl⟩

def alb : ByteArray := { data := #[97, 98, 99, 100, 101, 102, 103, 104, 105, 106, 107, 108, 109, 110, 111, 112, 113, 114, 115, 116, 117, 118, 119, 120, 121, 122, 48, 49, 50, 51, 52, 53, 54, 55, 56, 57, 45, 95] }

theorem alb_list : alb.data.toList = alph := rfl
theorem alb_size : alb.size = 38 := rfl

theorem alph_snoc (j : Nat) (h : j < 38) : alph.take (j + 1) = alph.take j ++ [alb[j]'(by rw [alb_size]; exact h)] := take_snoc alb j (by rw [alb_size]; exact h)

theorem index_alph (j : Nat) (h : j < 38) (w : World) : (Instr.index 9 (.string { data := #[97, 98, 99, 100, 101, 102, 103, 104, 105, 106, 107, 108, 109, 110, 111, 112, 113, 114, 115, 116, 117, 118, 119, 120, 121, 122, 48, 49, 50, 51, 52, 53, 54, 55, 56, 57, 45, 95] }) (.int .i64 (j : Int))).run Try.prog w = .ok (.int .u8 ((alb[j]'(by rw [alb_size]; exact h)).toNat : Int)) w := by
  have h' : j < alb.size := by rw [alb_size]; exact h
  show (Instr.index 9 (.string alb) (.int .i64 (j : Int))).run Try.prog w = _
  rw [run_index_string w 9 alb .i64 j Try.underlying9, dif_pos ⟨by omega, by omega⟩]
  rfl

/-- The count behind k bytes of s, T having been counted before. -/
def cnt (l : List UInt8) (A : UInt8) (T k : Nat) : Nat := T + (l.take k).count A
theorem cnt_zero (l : List UInt8) (A : UInt8) (T : Nat) : cnt l A T 0 = T := by simp [cnt]
theorem cnt_hit (s : ByteArray) (A : UInt8) (T k : Nat) (h : k < s.size) (e : s[k] = A) : cnt s.data.toList A T (k + 1) = cnt s.data.toList A T k + 1 := by
  simp only [cnt]; rw [take_snoc s k h, count_snoc, if_pos e]; omega
theorem cnt_miss (s : ByteArray) (A : UInt8) (T k : Nat) (h : k < s.size) (e : ¬ s[k] = A) : cnt s.data.toList A T (k + 1) = cnt s.data.toList A T k := by
  simp only [cnt]; rw [take_snoc s k h, count_snoc, if_neg e]; omega
theorem cnt_le (l : List UInt8) (A : UInt8) (T k : Nat) : cnt l A T k ≤ T + k := by
  have h1 : (l.take k).count A ≤ (l.take k).length := List.count_le_length
  have h2 : (l.take k).length ≤ k := List.length_take_le _ _
  simp only [cnt]; omega
theorem tot_le (A l : List UInt8) : tot A l ≤ A.length * l.length := by
  induction A with
  | nil => simp [tot]
  | cons a A ih =>
    have h : l.count a ≤ l.length := List.count_le_length
    simp only [tot, List.map_cons, List.sum_cons, List.length_cons] at ih ⊢
    rw [Nat.add_mul, Nat.one_mul]; omega
theorem tot_bd (s : ByteArray) (j : Nat) (hj : j ≤ 38) (h : s.size ≤ 1048576) : tot (alph.take j) s.data.toList ≤ 39845888 := by
  have h1 := tot_le (alph.take j) s.data.toList
  have h2 : (alph.take j).length ≤ 38 := by have := List.length_take_le j alph; omega
  have h3 : s.data.toList.length = s.size := by simp
  have := Nat.mul_le_mul h2 (Nat.le_trans (Nat.le_of_eq h3) h)
  omega
theorem cnt_all (s : ByteArray) (A : UInt8) (j : Nat) (hs : alph.take (j + 1) = alph.take j ++ [A]) : cnt s.data.toList A (tot (alph.take j) s.data.toList) s.size = tot (alph.take (j + 1)) s.data.toList := by
  have e : s.data.toList.take s.size = s.data.toList := List.take_of_length_le (by simp)
  rw [hs, tot_snoc, cnt, e]
theorem u8_ne (a b : UInt8) (h : ¬ a = b) : ((a.toNat : Int) == (b.toNat : Int)) = false := by
  have : ¬ a.toNat = b.toNat := fun e => h (UInt8.toNat_inj.1 e)
  simp only [beq_eq_false_iff_ne, ne_eq]; omega
theorem take38 : alph.take 38 = alph := rfl
theorem end_some (s : ByteArray) (h : 0 < s.size) : (nameB s.data.toList == ((tot (alph.take 38) s.data.toList : Int) == (s.size : Int))) = true := by
  have h3 : s.data.toList.length = s.size := by simp
  rw [take38, name_iff_counts, h3]
  by_cases e : tot alph s.data.toList = s.size
  · simp [h, e]
  · have e' : ¬ (tot alph s.data.toList : Int) = (s.size : Int) := by omega
    simp [h, e, e']
theorem end_none (s : ByteArray) (h : ¬ 0 < s.size) : (!nameB s.data.toList) = true := by
  have h3 : s.data.toList.length = s.size := by simp
  rw [name_iff_counts, h3]
  simp [h]

set_option maxHeartbeats 400000 in
theorem law1_near (s : ByteArray) (w : World) (h : s.size ≤ 1048576) :
    Calls Try.prog 3 #[.string s] w fun e w' => e = .returned (.bool true) ∧ w' = w := by
  have h1 : (s.size : Int) ≤ 1048576 := by omega
  have HN := hid (name_any s w (by unfold maxLen; omega))
  have HZ := hid (zz_near s w h)
  go_enter Try.func3, Try.ntmps3
  go_wp2_with (go_at_call 5; refine HZ.out.mono ?_; rintro e w' ⟨rfl, rfl⟩)
  clear HZ
  go_loop [3, 4, 5, 6] (fun n i _ _ => ∃ j : Nat, j ≤ 38 ∧ i = .int .i64 j ∧ n = .int .i64 (tot (alph.take j) s.data.toList)) (fun _ i _ _ => 38 - (intOf i).toNat)
  case atStart => exact ⟨0, Nat.zero_le _, rfl, rfl⟩
  case round =>
    obtain ⟨j, hj, rfl, rfl⟩ := hrel
    by_cases hlt : j < 38
    · obtain ⟨A, hA⟩ : ∃ A, A = alb[j]'(by rw [alb_size]; exact hlt) := ⟨_, rfl⟩
      have hix := index_alph j hlt
      rw [← hA] at hix
      have HS := hid (alph_snoc j hlt)
      rw [← hA] at HS
      clear hA
      have hT := tot_bd s j hj h
      have HSN := hid (cnt_all s A j HS.out)
      obtain ⟨T, hTe⟩ : ∃ T, T = tot (alph.take j) s.data.toList := ⟨_, rfl⟩
      rw [← hTe] at hT HSN ⊢
      clear hTe HN HS
      go_wp2
      go_loop [3, 6] (fun n i => ∃ k : Nat, k ≤ s.size ∧ i = .int .i64 k ∧ n = .int .i64 (cnt s.data.toList A T k)) (fun _ i => s.size - (intOf i).toNat)
      case atStart => exact ⟨0, Nat.zero_le _, rfl, by rw [cnt_zero]⟩
      case round =>
        obtain ⟨k, hk, rfl, rfl⟩ := hrel
        have hcl := cnt_le s.data.toList A T k
        by_cases hlk : k < s.size
        · by_cases he : s[k] = A
          · have HH := hid (cnt_hit s A T k hlk he)
            have ht : ((s[k].toNat : Int) == (A.toNat : Int)) = true := by rw [he]; simp
            clear he
            go_wp2
            go_round
            case rel => exact ⟨k + 1, by omega, by go_num, by rw [HH.out]; go_num⟩
            case measure => simp [intOf]; omega
          · have HH := hid (cnt_miss s A T k hlk he)
            have ht := u8_ne _ _ he
            clear he
            go_wp2
            go_round
            case rel => exact ⟨k + 1, by omega, by go_num, by rw [HH.out]⟩
            case measure => simp [intOf]; omega
        · have hkk : k = s.size := by omega
          subst hkk
          go_wp2
          go_round
          case rel => exact ⟨j + 1, by omega, by go_num, by rw [HSN.out]⟩
          case measure => simp [intOf]; omega
    · obtain rfl : j = 38 := by omega
      have HE1 := hid (end_some s)
      have HE2 := hid (end_none s)
      by_cases hz : 0 < s.size
      · go_wp2_with (go_at_call 6; refine HN.out.mono ?_; rintro e w' ⟨rfl, rfl⟩)
        go_ret
        exact ⟨ret_bool (HE1.out hz), rfl⟩
      · go_wp2_with (go_at_call 6; refine HN.out.mono ?_; rintro e w' ⟨rfl, rfl⟩)
        go_ret
        exact ⟨ret_bool (HE2.out hz), rfl⟩

end Go.Proofs.Qxb6627558a.Nm
