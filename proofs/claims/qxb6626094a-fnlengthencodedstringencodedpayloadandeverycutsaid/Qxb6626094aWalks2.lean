import Derived.Test.Qxb6626094aRows
import Derived.Test.Qxb6626094aPlain
import Derived.WalkKit
import Derived.ProofKit
import Derived.OpenShut
import Derived.Below
import Derived.WalkSpells
import Derived.WalkLawsBesides
import Derived.Outline
import Derived.Deep.QuietTactic
import Derived.BigQuiet
import Derived.Test.Qxb6626094aWalks1
namespace Go.Proofs.Qxb6626094a.Les
open Go.ChangeShapes Go.WideShapes Go.ChangeAt Go.RowKit

/-! ### LengthEncodedString -/
theorem les_nohead (n c : Nat) (p : Option Addr) (b o : Nat) (g : Nat → Int) (w : World) (hn : n ≤ maxLen) (hp : 0 < n → p = some ⟨b, o, none⟩)
    (hc : ∀ i, i < n → w.cell? ⟨b, o + i, none⟩ = some (.int .u8 (g i))) (hh : heads g n = false) :
    Calls Try.prog 7 #[.slice p n c] w fun e w' => e = .returned (.tuple #[.slice none 0 0, .int .i64 0, .bool false]) ∧ w' = w := by
  have HC : Hid (∀ i, i < n → w.cell? ⟨b, o + i, none⟩ = some (.int .u8 (g i))) := hc
  have HP : Hid (0 < n → p = some ⟨b, o, none⟩) := hp
  clear hc hp
  go_enter Try.func7, Try.ntmps7
  go_wp2_with (go_at_call 12; refine (lei_no n c p b o g w hn HP.out HC.out hh).mono ?_; rintro e w' ⟨rfl, rfl⟩)
  go_ret3
  exact ⟨rfl, rfl⟩

set_option maxHeartbeats 400000 in
theorem les_short (n c h : Nat) (v : Int) (p : Option Addr) (w : World) (hn : n ≤ maxLen) (hh : h ≤ n)
    (hlei : Hid (Calls Try.prog 12 #[.slice p n c] w fun e w' => e = .returned (.tuple #[.int .u64 v, .int .i64 h, .bool true]) ∧ w' = w))
    (hlt : (n : Int) - h < v) :
    Calls Try.prog 7 #[.slice p n c] w fun e w' => e = .returned (.tuple #[.slice none 0 0, .int .i64 0, .bool false]) ∧ w' = w := by
  unfold maxLen at hn
  go_enter Try.func7, Try.ntmps7
  go_wp2_with (go_at_call 12; refine hlei.out.mono ?_; rintro e w' ⟨rfl, rfl⟩)
  go_ret3
  exact ⟨rfl, rfl⟩

set_option maxHeartbeats 400000 in
theorem les_good (n c h : Nat) (v : Nat) (b o : Nat) (w : World) (hcn : n ≤ c) (hcm : c ≤ maxLen) (hh : h ≤ n)
    (hlei : Hid (Calls Try.prog 12 #[.slice (some ⟨b, o, none⟩) n c] w fun e w' => e = .returned (.tuple #[.int .u64 v, .int .i64 h, .bool true]) ∧ w' = w))
    (hge : h + v ≤ n) :
    Calls Try.prog 7 #[.slice (some ⟨b, o, none⟩) n c] w fun e w' => ∃ a, e = .returned (.tuple #[.slice (some a) v (c - h), .int .i64 ((h : Int) + v), .bool true]) ∧ (0 < v → a = ⟨b, o + h, none⟩) ∧ w' = w := by
  unfold maxLen at hcm
  go_enter Try.func7, Try.ntmps7
  go_wp2_with (go_at_call 12; refine hlei.out.mono ?_; rintro e w' ⟨rfl, rfl⟩)
  · go_ret3
    exact ⟨_, rfl, fun _ => by omega, rfl⟩
  · go_ret3
    exact ⟨_, rfl, fun _ => rfl, rfl⟩

theorem les_no (n c : Nat) (p : Option Addr) (b o : Nat) (g : Nat → Int) (hg : Bytes g) (w : World) (hn : n ≤ maxLen) (hp : 0 < n → p = some ⟨b, o, none⟩)
    (hc : ∀ i, i < n → w.cell? ⟨b, o + i, none⟩ = some (.int .u8 (g i))) (hh : okB g n = false) :
    Calls Try.prog 7 #[.slice p n c] w fun e w' => e = .returned (.tuple #[.slice none 0 0, .int .i64 0, .bool false]) ∧ w' = w := by
  by_cases hd : heads g n = true
  · have hlei := lei_yes n c p b o g hg w hn hp hc hd
    simp only [heads, decide_eq_true_eq] at hd
    simp only [okB, decide_eq_false_iff_not] at hh
    exact les_short n c (hl (g 0)) (num g) p w hn (by omega) hlei (by omega)
  · exact les_nohead n c p b o g w hn hp hc (by simpa using hd)

theorem les_yes (n c : Nat) (b o : Nat) (g : Nat → Int) (hg : Bytes g) (w : World) (hcn : n ≤ c) (hcm : c ≤ maxLen)
    (hc : ∀ i, i < n → w.cell? ⟨b, o + i, none⟩ = some (.int .u8 (g i))) (hh : okB g n = true) :
    Calls Try.prog 7 #[.slice (some ⟨b, o, none⟩) n c] w fun e w' => ∃ a, e = .returned (.tuple #[.slice (some a) (num g).toNat (c - hl (g 0)), .int .i64 ((hl (g 0) : Int) + num g), .bool true]) ∧ (0 < (num g).toNat → a = ⟨b, o + hl (g 0), none⟩) ∧ w' = w := by
  simp only [okB, decide_eq_true_eq] at hh
  obtain ⟨h0, h1, h2, h3⟩ := hh
  have hnb := num_bd g hg
  have hlei := lei_yes n c (some ⟨b, o, none⟩) b o g hg w (by omega) (fun _ => rfl) hc (by simp [heads, h0, h1, h2])
  have e : num g = ((num g).toNat : Int) := by omega
  rw [e] at hlei
  have := les_good n c (hl (g 0)) (num g).toNat b o w hcn hcm h2 hlei (by omega)
  rw [← e] at this
  exact this

/-! ### lesHeaderLen -/
theorem hlen_any (c : Int) (w : World) : Calls Try.prog 11 #[.int .u8 c] w fun e w' => e = .returned (.int .i64 (hl c)) ∧ w' = w := by
  rcases hl_cases c with ⟨e, f⟩ | ⟨e, f⟩ | ⟨e, f⟩ | ⟨e, f⟩ | ⟨e, f⟩ | ⟨e2, e3, e4, e1, e5, f⟩
  iterate 5
    · rw [f]; subst e; clear f
      go_enter Try.func11, Try.ntmps11
      go_wp2
      go_ret
      exact ⟨rfl, rfl⟩
  · rw [f]
    have t1 : (c == 251) = false := by simpa using e1
    have t2 : (c == 252) = false := by simpa using e2
    have t3 : (c == 253) = false := by simpa using e3
    have t4 : (c == 254) = false := by simpa using e4
    have t5 : (c == 255) = false := by simpa using e5
    clear e1 e2 e3 e4 e5 f
    go_enter Try.func11, Try.ntmps11
    go_wp2
    go_ret
    exact ⟨rfl, rfl⟩

/-! ### lesModel -/
theorem mod_nil (c : Nat) (p : Option Addr) (w : World) :
    Calls Try.prog 6 #[.slice p 0 c] w fun e w' => e = .returned (.tuple #[.int .i64 0, .int .i64 0, .bool false]) ∧ w' = w := by
  go_enter Try.func6, Try.ntmps6
  go_wp2
  go_ret3
  exact ⟨rfl, rfl⟩

set_option maxHeartbeats 400000 in
theorem mod_bad (n c : Nat) (b o : Nat) (x : Int) (w : World) (hn : n ≤ maxLen) (h0 : 0 < n) (hc0 : w.cell? ⟨b, o, none⟩ = some (.int .u8 x)) (hx : hl x = 0) :
    Calls Try.prog 6 #[.slice (some ⟨b, o, none⟩) n c] w fun e w' => e = .returned (.tuple #[.int .i64 0, .int .i64 0, .bool false]) ∧ w' = w := by
  unfold maxLen at hn
  have hne : ((n : Int) == 0) = false := by simp; omega
  have hp : (0 : Int) < (n : Int) := by omega
  have HL : Hid (Calls Try.prog 11 #[.int .u8 x] w fun e w' => e = .returned (.int .i64 0) ∧ w' = w) := by have := hlen_any x w; rw [hx] at this; exact this
  clear hx
  go_enter Try.func6, Try.ntmps6
  go_wp2_with (go_at_call 11; refine HL.out.mono ?_; rintro e w' ⟨rfl, rfl⟩)
  go_ret3
  exact ⟨rfl, rfl⟩

set_option maxHeartbeats 400000 in
theorem mod_one (n c : Nat) (b o : Nat) (x : Int) (w : World) (hn : n ≤ maxLen) (h0 : 0 < n) (hc0 : w.cell? ⟨b, o, none⟩ = some (.int .u8 x)) (hx : hl x = 1) (hx0 : 0 ≤ x) (hx1 : x ≤ 255) (hle : x ≤ (n : Int) - 1) :
    Calls Try.prog 6 #[.slice (some ⟨b, o, none⟩) n c] w fun e w' => e = .returned (.tuple #[.int .i64 1, .int .i64 (1 + x), .bool true]) ∧ w' = w := by
  unfold maxLen at hn
  have hne : ((n : Int) == 0) = false := by simp; omega
  have hp : (0 : Int) < (n : Int) := by omega
  have HL : Hid (Calls Try.prog 11 #[.int .u8 x] w fun e w' => e = .returned (.int .i64 1) ∧ w' = w) := by have := hlen_any x w; rw [hx] at this; exact this
  clear hx
  go_enter Try.func6, Try.ntmps6
  go_wp2_with (go_at_call 11; refine HL.out.mono ?_; rintro e w' ⟨rfl, rfl⟩)
  go_ret3
  exact ⟨rfl, rfl⟩

set_option maxHeartbeats 400000 in
theorem mod_one_no (n c : Nat) (b o : Nat) (x : Int) (w : World) (hn : n ≤ maxLen) (h0 : 0 < n) (hc0 : w.cell? ⟨b, o, none⟩ = some (.int .u8 x)) (hx : hl x = 1) (hx0 : 0 ≤ x) (hx1 : x ≤ 255) (hle : (n : Int) - 1 < x) :
    Calls Try.prog 6 #[.slice (some ⟨b, o, none⟩) n c] w fun e w' => e = .returned (.tuple #[.int .i64 0, .int .i64 0, .bool false]) ∧ w' = w := by
  unfold maxLen at hn
  have hne : ((n : Int) == 0) = false := by simp; omega
  have hp : (0 : Int) < (n : Int) := by omega
  have HL : Hid (Calls Try.prog 11 #[.int .u8 x] w fun e w' => e = .returned (.int .i64 1) ∧ w' = w) := by have := hlen_any x w; rw [hx] at this; exact this
  clear hx
  go_enter Try.func6, Try.ntmps6
  go_wp2_with (go_at_call 11; refine HL.out.mono ?_; rintro e w' ⟨rfl, rfl⟩)
  go_ret3
  exact ⟨rfl, rfl⟩

set_option maxHeartbeats 400000 in
theorem mod_short3 (n c : Nat) (b o : Nat) (x : Int) (w : World) (hn : n ≤ maxLen) (h0 : 0 < n) (hc0 : w.cell? ⟨b, o, none⟩ = some (.int .u8 x)) (hx : hl x = 3) (hlt : n < 3) :
    Calls Try.prog 6 #[.slice (some ⟨b, o, none⟩) n c] w fun e w' => e = .returned (.tuple #[.int .i64 0, .int .i64 0, .bool false]) ∧ w' = w := by
  unfold maxLen at hn
  have hne : ((n : Int) == 0) = false := by simp; omega
  have hp : (0 : Int) < (n : Int) := by omega
  have HL : Hid (Calls Try.prog 11 #[.int .u8 x] w fun e w' => e = .returned (.int .i64 3) ∧ w' = w) := by have := hlen_any x w; rw [hx] at this; exact this
  clear hx
  go_enter Try.func6, Try.ntmps6
  go_wp2_with (go_at_call 11; refine HL.out.mono ?_; rintro e w' ⟨rfl, rfl⟩)
  go_ret3
  exact ⟨rfl, rfl⟩

set_option maxHeartbeats 400000 in
theorem mod_long3 (n c : Nat) (b o : Nat) (g : Nat → Int) (hg : Bytes g) (w : World) (hn : n ≤ maxLen) (hc : ∀ i, i < n → w.cell? ⟨b, o + i, none⟩ = some (.int .u8 (g i))) (hx : hl (g 0) = 3) (hge : 3 ≤ n) :
    Calls Try.prog 6 #[.slice (some ⟨b, o, none⟩) n c] w fun e wx => e = (if vv g 2 ≤ (n : Int) - 3 then .returned (.tuple #[.int .i64 3, .int .i64 (3 + vv g 2), .bool true]) else .returned (.tuple #[.int .i64 0, .int .i64 0, .bool false])) ∧ wx = w := by
  unfold maxLen at hn
  have hne : ((n : Int) == 0) = false := by simp; omega
  have hp : (0 : Int) < (n : Int) := by omega
  have HL : Hid (Calls Try.prog 11 #[.int .u8 (g 0)] w fun e w' => e = .returned (.int .i64 3) ∧ w' = w) := by have := hlen_any (g 0) w; rw [hx] at this; exact this
  have hc0 : w.cell? ⟨b, o, none⟩ = some (.int .u8 (g 0)) := by simpa using hc 0 (by omega)
  have hlt : ¬ (n : Int) < 3 := by omega
  clear hx
  go_enter Try.func6, Try.ntmps6
  go_wp2_with (go_at_call 11; refine HL.out.mono ?_; rintro e w' ⟨rfl, hw'⟩; obtain rfl := hw'.symm)
  clear HL
  go_loop [7, 8, 9] (fun v p i => ∃ k : Nat, k ≤ 2 ∧ i = .int .i64 (1 + k) ∧ v = .int .u64 (vv g k) ∧ p = .int .u64 (pw k)) (fun _ _ i => 3 - (intOf i).toNat)
  case atStart => exact ⟨0, by omega, rfl, rfl, rfl⟩
  case round =>
    obtain ⟨k, hk, rfl, rfl, rfl⟩ := hrel
    by_cases hlt : k < 2
    · have hcx : w.cell? ⟨b, o + (1 + k), none⟩ = some (.int .u8 (g (k + 1))) := by rw [hc (1 + k) (by omega), Nat.add_comm 1 k]
      have HS : Hid (IntKind.u64.wrap (vv g k + IntKind.u64.wrap (IntKind.u64.wrap (g (k + 1)) * pw k)) = vv g (k + 1)) := vv_step g hg k (by omega)
      have HP : Hid (IntKind.u64.wrap (pw k * 256) = pw (k + 1)) := pw_step k
      go_wp2
      go_round
      case rel => exact ⟨k + 1, by omega, by go_num, by rw [HS.out], by rw [HP.out]⟩
      case measure => simp [intOf]; omega
    · obtain rfl : k = 2 := by omega
      have hv0 : 0 ≤ vv g 2 := (vv_bd g hg 2).1
      go_wp2
      all_goals
        go_ret3
        exact ⟨rfl, rfl⟩

set_option maxHeartbeats 400000 in
theorem mod_short4 (n c : Nat) (b o : Nat) (x : Int) (w : World) (hn : n ≤ maxLen) (h0 : 0 < n) (hc0 : w.cell? ⟨b, o, none⟩ = some (.int .u8 x)) (hx : hl x = 4) (hlt : n < 4) :
    Calls Try.prog 6 #[.slice (some ⟨b, o, none⟩) n c] w fun e w' => e = .returned (.tuple #[.int .i64 0, .int .i64 0, .bool false]) ∧ w' = w := by
  unfold maxLen at hn
  have hne : ((n : Int) == 0) = false := by simp; omega
  have hp : (0 : Int) < (n : Int) := by omega
  have HL : Hid (Calls Try.prog 11 #[.int .u8 x] w fun e w' => e = .returned (.int .i64 4) ∧ w' = w) := by have := hlen_any x w; rw [hx] at this; exact this
  clear hx
  go_enter Try.func6, Try.ntmps6
  go_wp2_with (go_at_call 11; refine HL.out.mono ?_; rintro e w' ⟨rfl, rfl⟩)
  go_ret3
  exact ⟨rfl, rfl⟩

set_option maxHeartbeats 400000 in
theorem mod_long4 (n c : Nat) (b o : Nat) (g : Nat → Int) (hg : Bytes g) (w : World) (hn : n ≤ maxLen) (hc : ∀ i, i < n → w.cell? ⟨b, o + i, none⟩ = some (.int .u8 (g i))) (hx : hl (g 0) = 4) (hge : 4 ≤ n) :
    Calls Try.prog 6 #[.slice (some ⟨b, o, none⟩) n c] w fun e wx => e = (if vv g 3 ≤ (n : Int) - 4 then .returned (.tuple #[.int .i64 4, .int .i64 (4 + vv g 3), .bool true]) else .returned (.tuple #[.int .i64 0, .int .i64 0, .bool false])) ∧ wx = w := by
  unfold maxLen at hn
  have hne : ((n : Int) == 0) = false := by simp; omega
  have hp : (0 : Int) < (n : Int) := by omega
  have HL : Hid (Calls Try.prog 11 #[.int .u8 (g 0)] w fun e w' => e = .returned (.int .i64 4) ∧ w' = w) := by have := hlen_any (g 0) w; rw [hx] at this; exact this
  have hc0 : w.cell? ⟨b, o, none⟩ = some (.int .u8 (g 0)) := by simpa using hc 0 (by omega)
  have hlt : ¬ (n : Int) < 4 := by omega
  clear hx
  go_enter Try.func6, Try.ntmps6
  go_wp2_with (go_at_call 11; refine HL.out.mono ?_; rintro e w' ⟨rfl, hw'⟩; obtain rfl := hw'.symm)
  clear HL
  go_loop [7, 8, 9] (fun v p i => ∃ k : Nat, k ≤ 3 ∧ i = .int .i64 (1 + k) ∧ v = .int .u64 (vv g k) ∧ p = .int .u64 (pw k)) (fun _ _ i => 4 - (intOf i).toNat)
  case atStart => exact ⟨0, by omega, rfl, rfl, rfl⟩
  case round =>
    obtain ⟨k, hk, rfl, rfl, rfl⟩ := hrel
    by_cases hlt : k < 3
    · have hcx : w.cell? ⟨b, o + (1 + k), none⟩ = some (.int .u8 (g (k + 1))) := by rw [hc (1 + k) (by omega), Nat.add_comm 1 k]
      have HS : Hid (IntKind.u64.wrap (vv g k + IntKind.u64.wrap (IntKind.u64.wrap (g (k + 1)) * pw k)) = vv g (k + 1)) := vv_step g hg k (by omega)
      have HP : Hid (IntKind.u64.wrap (pw k * 256) = pw (k + 1)) := pw_step k
      go_wp2
      go_round
      case rel => exact ⟨k + 1, by omega, by go_num, by rw [HS.out], by rw [HP.out]⟩
      case measure => simp [intOf]; omega
    · obtain rfl : k = 3 := by omega
      have hv0 : 0 ≤ vv g 3 := (vv_bd g hg 3).1
      go_wp2
      all_goals
        go_ret3
        exact ⟨rfl, rfl⟩

set_option maxHeartbeats 400000 in
theorem mod_short9 (n c : Nat) (b o : Nat) (x : Int) (w : World) (hn : n ≤ maxLen) (h0 : 0 < n) (hc0 : w.cell? ⟨b, o, none⟩ = some (.int .u8 x)) (hx : hl x = 9) (hlt : n < 9) :
    Calls Try.prog 6 #[.slice (some ⟨b, o, none⟩) n c] w fun e w' => e = .returned (.tuple #[.int .i64 0, .int .i64 0, .bool false]) ∧ w' = w := by
  unfold maxLen at hn
  have hne : ((n : Int) == 0) = false := by simp; omega
  have hp : (0 : Int) < (n : Int) := by omega
  have HL : Hid (Calls Try.prog 11 #[.int .u8 x] w fun e w' => e = .returned (.int .i64 9) ∧ w' = w) := by have := hlen_any x w; rw [hx] at this; exact this
  clear hx
  go_enter Try.func6, Try.ntmps6
  go_wp2_with (go_at_call 11; refine HL.out.mono ?_; rintro e w' ⟨rfl, rfl⟩)
  go_ret3
  exact ⟨rfl, rfl⟩

set_option maxHeartbeats 400000 in
theorem mod_long9 (n c : Nat) (b o : Nat) (g : Nat → Int) (hg : Bytes g) (w : World) (hn : n ≤ maxLen) (hc : ∀ i, i < n → w.cell? ⟨b, o + i, none⟩ = some (.int .u8 (g i))) (hx : hl (g 0) = 9) (hge : 9 ≤ n) :
    Calls Try.prog 6 #[.slice (some ⟨b, o, none⟩) n c] w fun e wx => e = (if vv g 8 ≤ (n : Int) - 9 then .returned (.tuple #[.int .i64 9, .int .i64 (9 + vv g 8), .bool true]) else .returned (.tuple #[.int .i64 0, .int .i64 0, .bool false])) ∧ wx = w := by
  unfold maxLen at hn
  have hne : ((n : Int) == 0) = false := by simp; omega
  have hp : (0 : Int) < (n : Int) := by omega
  have HL : Hid (Calls Try.prog 11 #[.int .u8 (g 0)] w fun e w' => e = .returned (.int .i64 9) ∧ w' = w) := by have := hlen_any (g 0) w; rw [hx] at this; exact this
  have hc0 : w.cell? ⟨b, o, none⟩ = some (.int .u8 (g 0)) := by simpa using hc 0 (by omega)
  have hlt : ¬ (n : Int) < 9 := by omega
  clear hx
  go_enter Try.func6, Try.ntmps6
  go_wp2_with (go_at_call 11; refine HL.out.mono ?_; rintro e w' ⟨rfl, hw'⟩; obtain rfl := hw'.symm)
  clear HL
  go_loop [7, 8, 9] (fun v p i => ∃ k : Nat, k ≤ 8 ∧ i = .int .i64 (1 + k) ∧ v = .int .u64 (vv g k) ∧ p = .int .u64 (pw k)) (fun _ _ i => 9 - (intOf i).toNat)
  case atStart => exact ⟨0, by omega, rfl, rfl, rfl⟩
  case round =>
    obtain ⟨k, hk, rfl, rfl, rfl⟩ := hrel
    by_cases hlt : k < 8
    · have hcx : w.cell? ⟨b, o + (1 + k), none⟩ = some (.int .u8 (g (k + 1))) := by rw [hc (1 + k) (by omega), Nat.add_comm 1 k]
      have HS : Hid (IntKind.u64.wrap (vv g k + IntKind.u64.wrap (IntKind.u64.wrap (g (k + 1)) * pw k)) = vv g (k + 1)) := vv_step g hg k (by omega)
      have HP : Hid (IntKind.u64.wrap (pw k * 256) = pw (k + 1)) := pw_step k
      go_wp2
      go_round
      case rel => exact ⟨k + 1, by omega, by go_num, by rw [HS.out], by rw [HP.out]⟩
      case measure => simp [intOf]; omega
    · obtain rfl : k = 8 := by omega
      have hv0 : 0 ≤ vv g 8 := (vv_bd g hg 8).1
      go_wp2
      all_goals
        go_ret3
        exact ⟨rfl, rfl⟩

theorem mod_yes (n c : Nat) (p : Option Addr) (b o : Nat) (g : Nat → Int) (hg : Bytes g) (w : World) (hn : n ≤ maxLen) (hp : 0 < n → p = some ⟨b, o, none⟩)
    (hc : ∀ i, i < n → w.cell? ⟨b, o + i, none⟩ = some (.int .u8 (g i))) (hh : okB g n = true) :
    Calls Try.prog 6 #[.slice p n c] w fun e w' => e = .returned (.tuple #[.int .i64 (hl (g 0)), .int .i64 ((hl (g 0) : Int) + num g), .bool true]) ∧ w' = w := by
  simp only [okB, decide_eq_true_eq] at hh
  obtain ⟨h0, h1, h2, h3⟩ := hh
  obtain rfl := hp (by omega)
  have hc0 : w.cell? ⟨b, o, none⟩ = some (.int .u8 (g 0)) := by simpa using hc 0 (by omega)
  rcases hl_cases (g 0) with ⟨e, f⟩ | ⟨e, f⟩ | ⟨e, f⟩ | ⟨e, f⟩ | ⟨e, f⟩ | ⟨e2, e3, e4, e1, e5, f⟩
  · have := mod_long3 n c b o g hg w hn hc f (by omega)
    simp [num, f] at h3 ⊢
    rw [if_pos h3] at this
    exact this
  · have := mod_long4 n c b o g hg w hn hc f (by omega)
    simp [num, f] at h3 ⊢
    rw [if_pos h3] at this
    exact this
  · have := mod_long9 n c b o g hg w hn hc f (by omega)
    simp [num, f] at h3 ⊢
    rw [if_pos h3] at this
    exact this
  · exact absurd f h1
  · exact absurd f h1
  · simp [num, f] at h3 ⊢
    exact mod_one n c b o (g 0) w hn (by omega) hc0 f (hg 0).1 (hg 0).2 h3

theorem mod_no (n c : Nat) (p : Option Addr) (b o : Nat) (g : Nat → Int) (hg : Bytes g) (w : World) (hn : n ≤ maxLen) (hp : 0 < n → p = some ⟨b, o, none⟩)
    (hc : ∀ i, i < n → w.cell? ⟨b, o + i, none⟩ = some (.int .u8 (g i))) (hh : okB g n = false) :
    Calls Try.prog 6 #[.slice p n c] w fun e w' => e = .returned (.tuple #[.int .i64 0, .int .i64 0, .bool false]) ∧ w' = w := by
  simp only [okB, decide_eq_false_iff_not] at hh
  by_cases h0 : n = 0
  · subst h0; exact mod_nil c p w
  obtain rfl := hp (by omega)
  have hc0 : w.cell? ⟨b, o, none⟩ = some (.int .u8 (g 0)) := by simpa using hc 0 (by omega)
  rcases hl_cases (g 0) with ⟨e, f⟩ | ⟨e, f⟩ | ⟨e, f⟩ | ⟨e, f⟩ | ⟨e, f⟩ | ⟨e2, e3, e4, e1, e5, f⟩
  · by_cases hs : n < 3
    · exact mod_short3 n c b o (g 0) w hn (by omega) hc0 f hs
    · have := mod_long3 n c b o g hg w hn hc f (by omega)
      rw [if_neg (by simp [num, f] at hh; omega)] at this
      exact this
  · by_cases hs : n < 4
    · exact mod_short4 n c b o (g 0) w hn (by omega) hc0 f hs
    · have := mod_long4 n c b o g hg w hn hc f (by omega)
      rw [if_neg (by simp [num, f] at hh; omega)] at this
      exact this
  · by_cases hs : n < 9
    · exact mod_short9 n c b o (g 0) w hn (by omega) hc0 f hs
    · have := mod_long9 n c b o g hg w hn hc f (by omega)
      rw [if_neg (by simp [num, f] at hh; omega)] at this
      exact this
  · exact mod_bad n c b o (g 0) w hn (by omega) hc0 f
  · exact mod_bad n c b o (g 0) w hn (by omega) hc0 f
  · exact mod_one_no n c b o (g 0) w hn (by omega) hc0 f (hg 0).1 (hg 0).2 (by simp [num, f] at hh; omega)

end Go.Proofs.Qxb6626094a.Les
