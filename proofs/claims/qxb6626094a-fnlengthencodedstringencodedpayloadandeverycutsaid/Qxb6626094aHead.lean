import Derived.Test.Qxb6626094aRows
import Derived.Test.Qxb6626094aPlain
import Derived.WalkKit
import Derived.ProofKit
import Derived.OpenShut
import Derived.Below
import Derived.WalkSpells
import Derived.WalkLawsBesides
import Derived.Outline
import Derived.Deep.QuietTactic
import Derived.BigQuiet
import Derived.Test.Qxb6626094aWalks2
namespace Go.Proofs.Qxb6626094a.Les
open Go.ChangeShapes Go.WideShapes Go.ChangeAt Go.RowKit

def sv (v : Int) : Nat → Int
  | 0 => v
  | k + 1 => sv v k / 256

def hArr (v : Int) : Nat → Array Value
  | 0 => #[.int .u8 254, .int .u8 0, .int .u8 0, .int .u8 0, .int .u8 0, .int .u8 0, .int .u8 0, .int .u8 0, .int .u8 0]
  | k + 1 => (hArr v k).setIfInBounds (k + 1) (.int .u8 (sv v k % 256))

theorem hArr_size (v : Int) : ∀ k, (hArr v k).size = 9
  | 0 => rfl
  | k + 1 => by simp [hArr, hArr_size v k]

theorem head8_any (v : Int) (w : World) :
    Calls Try.prog 13 #[.int .u64 v] w fun e w' => e = .returned (.slice (some ⟨w.heap.size, 0, none⟩) 9 9) ∧ w' = w.alloc (.cells (hArr v 8) 5) := by
  have hmk : ∀ w, (Instr.makeSlice 22 (.int .i64 9) (.int .i64 9)).run Try.prog w = .ok (.slice (some ⟨w.heap.size, 0, none⟩) 9 9) (w.alloc (.cells #[.int .u8 0, .int .u8 0, .int .u8 0, .int .u8 0, .int .u8 0, .int .u8 0, .int .u8 0, .int .u8 0, .int .u8 0] 5)) := fun _ => by kernel_rfl
  go_enter Try.func13, Try.ntmps13
  go_wp2
  go_loopw [0, 4] (fun s i wr => ∃ k : Nat, k ≤ 8 ∧ i = .int .i64 (1 + k) ∧ s = .int .u64 (sv v k) ∧ wr = w.alloc (.cells (hArr v k) 5)) (fun _ i _ => 9 - (intOf i).toNat)
  case atStart => exact ⟨0, by omega, rfl, rfl, rfl⟩
  case round =>
    obtain ⟨k, hk, rfl, rfl, rfl⟩ := hrel
    have hs := hArr_size v k
    by_cases hlt : k < 8
    · obtain ⟨x, hx⟩ : ∃ x, (hArr v k)[1 + k]? = some x := ⟨_, Array.getElem?_eq_getElem (by omega)⟩
      go_wp2
      go_roundw
      case rel => exact ⟨k + 1, by omega, by go_num, rfl, by simp only [hArr]; rw [Nat.add_comm 1 k]⟩
      case measure => simp [intOf]; omega
    · obtain rfl : k = 8 := by omega
      go_wp2
      go_ret
      exact ⟨rfl, rfl⟩

/-- A header that says n. -/
def Head (H : List Int) (n : Int) : Prop :=
  hl (H.getD 0 0) = H.length ∧ hl (H.getD 0 0) ≠ 0 ∧ num (fun i => H.getD i 0) = n ∧ Bytes (fun i => H.getD i 0)

def h8 (v : Int) : List Int := [254, sv v 0 % 256, sv v 1 % 256, sv v 2 % 256, sv v 3 % 256, sv v 4 % 256, sv v 5 % 256, sv v 6 % 256, sv v 7 % 256]

theorem hArr8 (v : Int) : hArr v 8 = ((h8 v).map (Value.int .u8)).toArray := by
  simp [hArr, h8]

theorem bytes_list (H : List Int) (h : ∀ x ∈ H, 0 ≤ x ∧ x ≤ 255) : Bytes (fun i => H.getD i 0) := by
  intro i
  show 0 ≤ H.getD i 0 ∧ H.getD i 0 ≤ 255
  rw [List.getD_eq_getElem?_getD]
  cases e : H[i]? with
  | none => simp
  | some x => simpa using h x (List.mem_of_getElem? e)

theorem head_one (v : Int) (h0 : 0 ≤ v) (h1 : v < 251) : Head [v] v := by
  refine ⟨?_, ?_, ?_, bytes_list _ ?_⟩
  · simp [hl]; repeat (rw [if_neg (by omega)])
  · simp [hl]; repeat (rw [if_neg (by omega)])
    simp
  · simp [num, hl]; repeat (rw [if_neg (by omega)])
    simp
  · simp; omega

theorem head_three (v : Int) (h0 : 0 ≤ v) (h1 : v ≤ 65535) : Head [252, v % 256, v / 256] v := by
  refine ⟨by simp [hl], by simp [hl], ?_, bytes_list _ ?_⟩
  · simp [num, hl, vv]; omega
  · simp; omega

theorem head_four (v : Int) (h0 : 0 ≤ v) (h1 : v ≤ 524288) : Head [253, v % 256, v / 256 % 256, v / 65536] v := by
  refine ⟨by simp [hl], by simp [hl], ?_, bytes_list _ ?_⟩
  · simp [num, hl, vv]; omega
  · simp; omega

theorem head_nine (v : Int) (h0 : 0 ≤ v) (h1 : v ≤ 524288) : Head (h8 v) v := by
  refine ⟨by simp [hl, h8], by simp [hl, h8], ?_, bytes_list _ ?_⟩
  · simp [num, hl, vv, h8, sv]; omega
  · simp [h8, sv]; omega

/-- What lesHeader hands back: a row of its own. -/
def Gives (w w' : World) (e : Ending) (n : Int) : Prop :=
  ∃ H : List Int, e = .returned (.slice (some ⟨w.heap.size, 0, none⟩) H.length H.length) ∧ Head H n ∧ w' = w.alloc (.cells ((H.map (Value.int .u8)).toArray) 5)

theorem head_any (f n : Int) (w : World) (f0 : 0 ≤ f) (f1 : f ≤ 255) (h0 : 0 ≤ n) (h1 : n ≤ 524288) :
    Calls Try.prog 10 #[.int .u8 f, .int .i64 n] w fun e w' => Gives w w' e n := by
  have H8 : Hid (Calls Try.prog 13 #[.int .u64 n] w fun e w' => e = .returned (.slice (some ⟨w.heap.size, 0, none⟩) 9 9) ∧ w' = w.alloc (.cells (hArr n 8) 5)) := head8_any n w
  have fin3 : n ≤ 65535 → Gives w (w.alloc (.cells #[.int .u8 252, .int .u8 (n % 256), .int .u8 (n / 256)] 5)) (.returned (.slice (some ⟨w.heap.size, 0, none⟩) 3 3)) n := fun h => ⟨_, rfl, head_three n h0 h, rfl⟩
  have fin4 : Gives w (w.alloc (.cells #[.int .u8 253, .int .u8 (n % 256), .int .u8 (n / 256 % 256), .int .u8 (n / 65536)] 5)) (.returned (.slice (some ⟨w.heap.size, 0, none⟩) 4 4)) n := ⟨_, rfl, head_four n h0 h1, rfl⟩
  have fin1 : n < 251 → Gives w (w.alloc (.cells #[.int .u8 n] 5)) (.returned (.slice (some ⟨w.heap.size, 0, none⟩) 1 1)) n := fun h => ⟨_, rfl, head_one n h0 h, rfl⟩
  have fin9 : Gives w (w.alloc (.cells (hArr n 8) 5)) (.returned (.slice (some ⟨w.heap.size, 0, none⟩) 9 9)) n := ⟨h8 n, rfl, head_nine n h0 h1, by rw [hArr8]⟩
  have F3 : Hid _ := fin3
  have F4 : Hid _ := fin4
  have F1 : Hid _ := fin1
  have F9 : Hid _ := fin9
  clear fin3 fin4 fin1 fin9
  by_cases t1 : f = 1
  · subst t1
    by_cases t : n ≤ 65535
    · go_enter Try.func10, Try.ntmps10
      go_wp2
      go_ret
      exact F3.out t
    · go_enter Try.func10, Try.ntmps10
      go_wp2
      go_ret
      exact F4.out
  by_cases t2 : f = 2
  · subst t2
    go_enter Try.func10, Try.ntmps10
    go_wp2
    go_ret
    exact F4.out
  by_cases t3 : f = 3
  · subst t3
    go_enter Try.func10, Try.ntmps10
    go_wp2_with (go_at_call 13; refine H8.out.mono ?_; rintro e w' ⟨rfl, rfl⟩)
    go_ret
    exact F9.out
  have g1 : (f == 1) = false := by simpa using t1
  have g2 : (f == 2) = false := by simpa using t2
  have g3 : (f == 3) = false := by simpa using t3
  clear t1 t2 t3
  by_cases t : n < 251
  · go_enter Try.func10, Try.ntmps10
    go_wp2
    go_ret
    exact F1.out t
  by_cases t' : n ≤ 65535
  · go_enter Try.func10, Try.ntmps10
    go_wp2
    go_ret
    exact F3.out t'
  · go_enter Try.func10, Try.ntmps10
    go_wp2
    go_ret
    exact F4.out

end Go.Proofs.Qxb6626094a.Les
