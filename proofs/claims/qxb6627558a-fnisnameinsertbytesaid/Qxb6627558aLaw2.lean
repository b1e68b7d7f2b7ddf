import Derived.Test.Qxb6627558aRows
import Derived.Test.Qxb6627558aPlain
import Derived.WalkKit
import Derived.ProofKit
import Derived.OpenShut
import Derived.Below
import Derived.WalkSpells
import Derived.WalkLawsBesides
import Derived.Outline
import Derived.Deep.QuietTactic
import Derived.BigQuiet
import Derived.Deep.Light
import Derived.RegionTactic
import Derived.Laws.BytesArg
import Derived.Laws.Concat
import Derived.Lib.Strings
import Derived.Test.Qxb6627558aLaw1
namespace Go.Proofs.Qxb6627558a.Nm
open Go.ChangeShapes Go.WideShapes Go.ChangeAt Go.RowKit

/-! ### zzInNameAlphabet -/
theorem in_take_succ (c A : UInt8) (j : Nat) (hs : alph.take (j + 1) = alph.take j ++ [A]) (h : ¬ c ∈ alph.take j) (e : ¬ A = c) : ¬ c ∈ alph.take (j + 1) := by
  rw [hs]
  intro m
  rcases List.mem_append.1 m with m | m
  · exact h m
  · exact e (List.mem_singleton.1 m).symm

theorem in_hit (c A : UInt8) (j : Nat) (hs : alph.take (j + 1) = alph.take j ++ [A]) (e : A = c) : okc c = true := by
  rw [← contains_alph]
  refine decide_eq_true (List.mem_of_mem_take (i := j + 1) ?_)
  rw [hs, e]
  simp

theorem in_none (c : UInt8) (h : ¬ c ∈ alph.take 38) : okc c = false := by
  rw [← contains_alph]
  exact decide_eq_false h

set_option maxHeartbeats 400000 in
theorem in_any (c : UInt8) (w : World) :
    Calls Try.prog 8 #[.int .u8 (c.toNat : Int)] w fun e w' => e = .returned (.bool (okc c)) ∧ w = w' := by
  go_enter Try.func8, Try.ntmps8
  go_wp2
  go_loop [3] (fun i => ∃ j : Nat, j ≤ 38 ∧ i = .int .i64 j ∧ Hid (¬ c ∈ alph.take j)) (fun i => 38 - (intOf i).toNat)
  case atStart => exact ⟨0, Nat.zero_le _, rfl, by show ¬ _; simp⟩
  case round =>
    obtain ⟨j, hj, rfl, HM⟩ := hrel
    by_cases hlt : j < 38
    · obtain ⟨A, hA⟩ : ∃ A, A = alb[j]'(by rw [alb_size]; exact hlt) := ⟨_, rfl⟩
      have hix := index_alph j hlt
      rw [← hA] at hix
      have HS := hid (alph_snoc j hlt)
      rw [← hA] at HS
      clear hA
      by_cases he : A = c
      · have HO := hid (in_hit c A j HS.out he)
        have ht : ((A.toNat : Int) == (c.toNat : Int)) = true := by rw [he]; simp
        clear he
        go_wp2
        go_ret
        exact ⟨ret_bool HO.out.symm, rfl⟩
      · have HO := hid (in_take_succ c A j HS.out HM.out he)
        have ht := u8_ne _ _ he
        clear he
        go_wp2
        go_round
        case rel => exact ⟨j + 1, by omega, by go_num, HO⟩
        case measure => simp [intOf]; omega
    · obtain rfl : j = 38 := by omega
      have HO := hid (in_none c HM.out)
      go_wp2
      go_ret
      exact ⟨ret_bool HO.out.symm, rfl⟩

/-! ### The law -/
theorem zz_near2 (s : ByteArray) (k c : Int) (w : World) (h : s.size ≤ 1048576) :
    Calls Try.prog 7 #[.string s, .int .i64 k, .int .u8 c] w fun e w' => e = .returned (.bool true) ∧ w = w' := by
  have h1 : (s.size : Int) ≤ 1048576 := by omega
  go_enter Try.func7, Try.ntmps7
  go_wp2
  go_ret
  exact ⟨rfl, rfl⟩

theorem law2_far (s : ByteArray) (k c : Int) (w : World) (hs : s.size ≤ maxLen) (h : 1048576 < s.size) :
    Calls Try.prog 4 #[.string s, .int .i64 k, .int .u8 c] w fun e w' => e = .returned (.bool true) ∧ w' = w := by
  unfold maxLen at hs
  have h1 : (1048576 : Int) < s.size := by omega
  go_enter Try.func4, Try.ntmps4
  go_wp2
  go_ret
  exact ⟨rfl, rfl⟩

theorem law2_out (s : ByteArray) (k c : Int) (w : World) (h : s.size ≤ 1048576) (hk : k < 0 ∨ (s.size : Int) < k) :
    Calls Try.prog 4 #[.string s, .int .i64 k, .int .u8 c] w fun e w' => e = .returned (.bool true) ∧ w' = w := by
  have h1 : (s.size : Int) ≤ 1048576 := by omega
  have HZ := hid (zz_near2 s k c w h)
  rcases hk with hk | hk
  all_goals
    go_enter Try.func4, Try.ntmps4
    go_wp2_with (go_at_call 7; refine HZ.out.mono ?_; rintro e w' ⟨rfl, rfl⟩)
    go_ret
    exact ⟨rfl, rfl⟩

/-- The string of one byte. -/
def one (c : UInt8) : ByteArray := { data := #[c] }
theorem one_size (c : UInt8) : (one c).size = 1 := rfl
theorem one_list (c : UInt8) : (one c).data.toList = [c] := rfl
theorem conv_one (c : UInt8) (W : World) (g : Nat) (h : W.cell? ⟨g, 0, none⟩ = some (.int .u8 (c.toNat : Int))) :
    (convert 24 9 (.slice (some ⟨g, 0, none⟩) 1 1)).run Try.prog W = .ok (.string (one c)) W := by
  have := run_convert_bytes_arg (P := Try.prog) W 24 5 Try.underlying24 Try.underlying5 g 0 1 1 [(c.toNat : Int)] rfl (fun i hi => by
    obtain rfl : i = 0 := by omega
    simpa using h) 9 Try.underlying9
  rw [this]
  simp [strOfNums, one]

/-- The walk, the three answers of IsName being b (the byte alone), p (the whole), q (s). -/
theorem law2_walk (s : ByteArray) (k : Nat) (c : UInt8) (w : World) (h : s.size ≤ 1048576) (hk : k ≤ s.size) (b p q : Bool)
    (HN1 : Hid (∀ w, Calls Try.prog 6 #[.string (one c)] w fun e w' => e = .returned (.bool b) ∧ w = w'))
    (HN2 : Hid (∀ w, Calls Try.prog 6 #[.string (s.extract 0 k ++ one c ++ s.extract k s.size)] w fun e w' => e = .returned (.bool p) ∧ w = w'))
    (HN3 : Hid (∀ w, Calls Try.prog 6 #[.string s] w fun e w' => e = .returned (.bool q) ∧ w = w'))
    (HI : Hid (∀ w, Calls Try.prog 8 #[.int .u8 (c.toNat : Int)] w fun e w' => e = .returned (.bool b) ∧ w = w'))
    (hp : (s.toList.isEmpty = true ∧ p = b) ∨ (s.toList.isEmpty = false ∧ p = (q && b))) :
    Calls Try.prog 4 #[.string s, .int .i64 (k : Int), .int .u8 (c.toNat : Int)] w fun e w' => e = .returned (.bool true) ∧ Grown w w' := by
  have h1 : (s.size : Int) ≤ 1048576 := by omega
  have HZ := hid (zz_near2 s k c.toNat w h)
  have hcv := conv_one c
  have h1s := one_size c
  rcases hp with ⟨he, rfl⟩ | ⟨he, rfl⟩
  · cases p
    all_goals
      go_enter Try.func4, Try.ntmps4
      go_wp2_with (first | (go_at_call 7; refine HZ.out.mono ?_; rintro e w' ⟨rfl, rfl⟩) | (go_at_call 6; refine (HN1.out _).mono ?_; rintro e w' ⟨rfl, rfl⟩))
      go_region
      go_wp2_with (first | (go_at_call 6; refine (HN2.out _).mono ?_; rintro e w' ⟨rfl, rfl⟩) | (go_at_call 8; refine (HI.out _).mono ?_; rintro e w' ⟨rfl, rfl⟩))
      go_ret
      exact ⟨rfl, by repeat (first | exact Grown.refl _ | apply Grown.drew | apply Grown.alloc)⟩
  · cases b <;> cases q
    all_goals
      go_enter Try.func4, Try.ntmps4
      go_wp2_with (first | (go_at_call 7; refine HZ.out.mono ?_; rintro e w' ⟨rfl, rfl⟩) | (go_at_call 6; refine (HN1.out _).mono ?_; rintro e w' ⟨rfl, rfl⟩))
      go_region
      go_wp2_with fail
      refine (HN2.out _).mono ?_
      rintro e w' ⟨rfl, rfl⟩
      go_wp2_with (first | (go_at_call 6; refine (HN3.out _).mono ?_; rintro e w' ⟨rfl, rfl⟩) | (go_at_call 8; refine (HI.out _).mono ?_; rintro e w' ⟨rfl, rfl⟩))
      go_ret
      exact ⟨rfl, by repeat (first | exact Grown.refl _ | apply Grown.drew | apply Grown.alloc)⟩

theorem whole_list (s : ByteArray) (k : Nat) (c : UInt8) : (s.extract 0 k ++ one c ++ s.extract k s.size).data.toList = s.data.toList.take k ++ [c] ++ s.data.toList.drop k := by
  have e : (s.data.toList.drop k).take (s.size - k) = s.data.toList.drop k := List.take_of_length_le (by simp)
  simp only [ByteArray.data_append, Array.toList_append, Lib.extract_data, one_list, List.drop_zero, Nat.sub_zero, e]

theorem whole_size (s : ByteArray) (k : Nat) (c : UInt8) (h : s.size ≤ 1048576) (hk : k ≤ s.size) : (s.extract 0 k ++ one c ++ s.extract k s.size).size ≤ maxLen := by
  have e : ∀ t : ByteArray, t.data.toList.length = t.size := fun t => by simp
  rw [← e, whole_list s k c]
  simp
  unfold maxLen
  omega

theorem law2_in (s : ByteArray) (k : Nat) (c : UInt8) (w : World) (h : s.size ≤ 1048576) (hk : k ≤ s.size) :
    Calls Try.prog 4 #[.string s, .int .i64 (k : Int), .int .u8 (c.toNat : Int)] w fun e w' => e = .returned (.bool true) ∧ Grown w w' := by
  have hw := name_insert (s.data.toList.take k) (s.data.toList.drop k) c
  rw [List.take_append_drop] at hw
  refine law2_walk s k c w h hk (okc c) ((s.data.toList.isEmpty || nameB s.data.toList) && okc c) (nameB s.data.toList) ?_ ?_ ?_ ?_ ?_
  · intro w
    refine (name_any (one c) w (by rw [one_size]; unfold maxLen; omega)).mono ?_
    rintro e w' ⟨rfl, rfl⟩
    rw [one_list, name_one]
    exact ⟨rfl, rfl⟩
  · intro w
    refine (name_any _ w (whole_size s k c h hk)).mono ?_
    rintro e w' ⟨rfl, rfl⟩
    rw [whole_list s k c, hw]
    exact ⟨rfl, rfl⟩
  · intro w
    refine (name_any s w (by unfold maxLen; omega)).mono ?_
    rintro e w' ⟨rfl, rfl⟩
    exact ⟨rfl, rfl⟩
  · exact in_any c
  · rw [toList_eq]
    cases e : s.data.toList.isEmpty
    · right; simp
    · left; simp

end Go.Proofs.Qxb6627558a.Nm
