import Derived.Test.Qxb6626094aRows
import Derived.Test.Qxb6626094aPlain
import Derived.WalkKit
import Derived.ProofKit
import Derived.OpenShut
import Derived.Below
import Derived.WalkSpells
import Derived.WalkLawsBesides
import Derived.Outline
import Derived.Deep.QuietTactic
import Derived.BigQuiet
import Derived.Test.Qxb6626094aBits
namespace Go.Proofs.Qxb6626094a.Les
open Go.ChangeShapes Go.WideShapes Go.ChangeAt Go.RowKit

theorem ret3 {k : IntKind} {a b : Int} {x y : Value} (h : a = b) : Ending.returned (.tuple #[.int k a, x, y]) = .returned (.tuple #[.int k b, x, y]) := by rw [h]

/-! ### lesSame, at two slices that read alike -/
set_option maxHeartbeats 400000 in
theorem same_any (n c1 c2 : Nat) (p1 p2 : Option Addr) (b1 o1 b2 o2 : Nat) (g : Nat → Int) (w : World) (hn : n ≤ maxLen)
    (h1 : 0 < n → p1 = some ⟨b1, o1, none⟩) (h2 : 0 < n → p2 = some ⟨b2, o2, none⟩)
    (hc1 : ∀ i, i < n → w.cell? ⟨b1, o1 + i, none⟩ = some (.int .u8 (g i))) (hc2 : ∀ i, i < n → w.cell? ⟨b2, o2 + i, none⟩ = some (.int .u8 (g i))) :
    Calls Try.prog 8 #[.slice p1 n c1, .slice p2 n c2] w fun e w' => e = .returned (.bool true) ∧ ∃ q, w' = w.drewN q := by
  unfold maxLen at hn
  go_enter Try.func8, Try.ntmps8
  go_wp2
  go_loopw [5] (fun i wr => ∃ k q : Nat, k ≤ n ∧ i = .int .i64 k ∧ wr = w.drewN q) (fun i _ => n - (intOf i).toNat)
  case atStart => exact ⟨0, 0, by omega, rfl, rfl⟩
  case round =>
    obtain ⟨k, q, hk, rfl, rfl⟩ := hrel
    by_cases hlt : k < n
    · obtain rfl := h1 (by omega)
      obtain rfl := h2 (by omega)
      have g1 := hc1 k hlt
      have g2 := hc2 k hlt
      go_wp2
      go_quiet (fail)
      go_wp2
      go_roundw
      case rel => exact ⟨k + 1, _, by omega, by go_num, rfl⟩
      case measure => simp [intOf]; omega
    · go_wp2
      go_ret
      exact ⟨rfl, _, rfl⟩

/-! ### LengthEncodedInt -/

set_option maxHeartbeats 400000 in
theorem lei_long3 (n c : Nat) (b o : Nat) (g : Nat → Int) (hg : Bytes g) (w : World) (hn : n ≤ maxLen) (hc : ∀ i, i < n → w.cell? ⟨b, o + i, none⟩ = some (.int .u8 (g i))) (hb : g 0 = 252) (h9 : 3 ≤ n) :
    Calls Try.prog 12 #[.slice (some ⟨b, o, none⟩) n c] w fun e w' => e = .returned (.tuple #[.int .u64 (vv g 2), .int .i64 3, .bool true]) ∧ w' = w := by
  unfold maxLen at hn
  have hc0 : w.cell? ⟨b, o, none⟩ = some (.int .u8 252) := by have := hc 0 (by omega); rw [hb] at this; simpa using this
  have hne : ((n : Int) == 0) = false := by simp; omega
  have hp : (0 : Int) < (n : Int) := by omega
  have hlt : ¬ (n : Int) < 3 := by omega
  clear hb
  go_enter Try.func12, Try.ntmps12
  go_wp2
  go_loop [2, 5] (fun v i => ∃ k : Nat, k ≤ 2 ∧ i = .int .i64 (2 - k) ∧ v = .int .u64 (dn g 2 k)) (fun _ i => (intOf i).toNat)
  case atStart => exact ⟨0, by omega, rfl, rfl⟩
  case round =>
    obtain ⟨k, hk, rfl, rfl⟩ := hrel
    by_cases hlt : k < 2
    · have hcx : w.cell? ⟨b, o + (2 - k), none⟩ = some (.int .u8 (g (2 - k))) := hc (2 - k) (by omega)
      have HS : Hid (bits .or .u64 (IntKind.u64.wrap (dn g 2 k * 256)) (IntKind.u64.wrap (g (2 - k))) = dn g 2 (k + 1)) := dn_step g hg 2 k (by omega)
      go_wp2
      go_round
      case rel => exact ⟨k + 1, by omega, by go_num, by rw [HS.out]⟩
      case measure => simp [intOf]; omega
    · obtain rfl : k = 2 := by omega
      have HS : Hid (dn g 2 2 = vv g 2) := dn_all g 2
      go_wp2
      go_ret3
      exact ⟨ret3 HS.out, rfl⟩

set_option maxHeartbeats 400000 in
theorem lei_short3 (n c : Nat) (b o : Nat) (g : Nat → Int) (w : World) (hn : n ≤ maxLen) (h0 : 0 < n) (hc : ∀ i, i < n → w.cell? ⟨b, o + i, none⟩ = some (.int .u8 (g i))) (hb : g 0 = 252) (h9 : n < 3) :
    Calls Try.prog 12 #[.slice (some ⟨b, o, none⟩) n c] w fun e w' => e = .returned (.tuple #[.int .u64 0, .int .i64 0, .bool false]) ∧ w' = w := by
  unfold maxLen at hn
  have hc0 : w.cell? ⟨b, o, none⟩ = some (.int .u8 252) := by have := hc 0 (by omega); rw [hb] at this; simpa using this
  have hne : ((n : Int) == 0) = false := by simp; omega
  have hp : (0 : Int) < (n : Int) := by omega
  have hlt : (n : Int) < 3 := by omega
  clear hb hc
  go_enter Try.func12, Try.ntmps12
  go_wp2
  go_ret3
  exact ⟨rfl, rfl⟩

set_option maxHeartbeats 400000 in
theorem lei_long4 (n c : Nat) (b o : Nat) (g : Nat → Int) (hg : Bytes g) (w : World) (hn : n ≤ maxLen) (hc : ∀ i, i < n → w.cell? ⟨b, o + i, none⟩ = some (.int .u8 (g i))) (hb : g 0 = 253) (h9 : 4 ≤ n) :
    Calls Try.prog 12 #[.slice (some ⟨b, o, none⟩) n c] w fun e w' => e = .returned (.tuple #[.int .u64 (vv g 3), .int .i64 4, .bool true]) ∧ w' = w := by
  unfold maxLen at hn
  have hc0 : w.cell? ⟨b, o, none⟩ = some (.int .u8 253) := by have := hc 0 (by omega); rw [hb] at this; simpa using this
  have hne : ((n : Int) == 0) = false := by simp; omega
  have hp : (0 : Int) < (n : Int) := by omega
  have hlt : ¬ (n : Int) < 4 := by omega
  clear hb
  go_enter Try.func12, Try.ntmps12
  go_wp2
  go_loop [2, 5] (fun v i => ∃ k : Nat, k ≤ 3 ∧ i = .int .i64 (3 - k) ∧ v = .int .u64 (dn g 3 k)) (fun _ i => (intOf i).toNat)
  case atStart => exact ⟨0, by omega, rfl, rfl⟩
  case round =>
    obtain ⟨k, hk, rfl, rfl⟩ := hrel
    by_cases hlt : k < 3
    · have hcx : w.cell? ⟨b, o + (3 - k), none⟩ = some (.int .u8 (g (3 - k))) := hc (3 - k) (by omega)
      have HS : Hid (bits .or .u64 (IntKind.u64.wrap (dn g 3 k * 256)) (IntKind.u64.wrap (g (3 - k))) = dn g 3 (k + 1)) := dn_step g hg 3 k (by omega)
      go_wp2
      go_round
      case rel => exact ⟨k + 1, by omega, by go_num, by rw [HS.out]⟩
      case measure => simp [intOf]; omega
    · obtain rfl : k = 3 := by omega
      have HS : Hid (dn g 3 3 = vv g 3) := dn_all g 3
      go_wp2
      go_ret3
      exact ⟨ret3 HS.out, rfl⟩

set_option maxHeartbeats 400000 in
theorem lei_short4 (n c : Nat) (b o : Nat) (g : Nat → Int) (w : World) (hn : n ≤ maxLen) (h0 : 0 < n) (hc : ∀ i, i < n → w.cell? ⟨b, o + i, none⟩ = some (.int .u8 (g i))) (hb : g 0 = 253) (h9 : n < 4) :
    Calls Try.prog 12 #[.slice (some ⟨b, o, none⟩) n c] w fun e w' => e = .returned (.tuple #[.int .u64 0, .int .i64 0, .bool false]) ∧ w' = w := by
  unfold maxLen at hn
  have hc0 : w.cell? ⟨b, o, none⟩ = some (.int .u8 253) := by have := hc 0 (by omega); rw [hb] at this; simpa using this
  have hne : ((n : Int) == 0) = false := by simp; omega
  have hp : (0 : Int) < (n : Int) := by omega
  have hlt : (n : Int) < 4 := by omega
  clear hb hc
  go_enter Try.func12, Try.ntmps12
  go_wp2
  go_ret3
  exact ⟨rfl, rfl⟩

set_option maxHeartbeats 400000 in
theorem lei_long9 (n c : Nat) (b o : Nat) (g : Nat → Int) (hg : Bytes g) (w : World) (hn : n ≤ maxLen) (hc : ∀ i, i < n → w.cell? ⟨b, o + i, none⟩ = some (.int .u8 (g i))) (hb : g 0 = 254) (h9 : 9 ≤ n) :
    Calls Try.prog 12 #[.slice (some ⟨b, o, none⟩) n c] w fun e w' => e = .returned (.tuple #[.int .u64 (vv g 8), .int .i64 9, .bool true]) ∧ w' = w := by
  unfold maxLen at hn
  have hc0 : w.cell? ⟨b, o, none⟩ = some (.int .u8 254) := by have := hc 0 (by omega); rw [hb] at this; simpa using this
  have hne : ((n : Int) == 0) = false := by simp; omega
  have hp : (0 : Int) < (n : Int) := by omega
  have hlt : ¬ (n : Int) < 9 := by omega
  clear hb
  go_enter Try.func12, Try.ntmps12
  go_wp2
  go_loop [2, 5] (fun v i => ∃ k : Nat, k ≤ 8 ∧ i = .int .i64 (8 - k) ∧ v = .int .u64 (dn g 8 k)) (fun _ i => (intOf i).toNat)
  case atStart => exact ⟨0, by omega, rfl, rfl⟩
  case round =>
    obtain ⟨k, hk, rfl, rfl⟩ := hrel
    by_cases hlt : k < 8
    · have hcx : w.cell? ⟨b, o + (8 - k), none⟩ = some (.int .u8 (g (8 - k))) := hc (8 - k) (by omega)
      have HS : Hid (bits .or .u64 (IntKind.u64.wrap (dn g 8 k * 256)) (IntKind.u64.wrap (g (8 - k))) = dn g 8 (k + 1)) := dn_step g hg 8 k (by omega)
      go_wp2
      go_round
      case rel => exact ⟨k + 1, by omega, by go_num, by rw [HS.out]⟩
      case measure => simp [intOf]; omega
    · obtain rfl : k = 8 := by omega
      have HS : Hid (dn g 8 8 = vv g 8) := dn_all g 8
      go_wp2
      go_ret3
      exact ⟨ret3 HS.out, rfl⟩

set_option maxHeartbeats 400000 in
theorem lei_short9 (n c : Nat) (b o : Nat) (g : Nat → Int) (w : World) (hn : n ≤ maxLen) (h0 : 0 < n) (hc : ∀ i, i < n → w.cell? ⟨b, o + i, none⟩ = some (.int .u8 (g i))) (hb : g 0 = 254) (h9 : n < 9) :
    Calls Try.prog 12 #[.slice (some ⟨b, o, none⟩) n c] w fun e w' => e = .returned (.tuple #[.int .u64 0, .int .i64 0, .bool false]) ∧ w' = w := by
  unfold maxLen at hn
  have hc0 : w.cell? ⟨b, o, none⟩ = some (.int .u8 254) := by have := hc 0 (by omega); rw [hb] at this; simpa using this
  have hne : ((n : Int) == 0) = false := by simp; omega
  have hp : (0 : Int) < (n : Int) := by omega
  have hlt : (n : Int) < 9 := by omega
  clear hb hc
  go_enter Try.func12, Try.ntmps12
  go_wp2
  go_ret3
  exact ⟨rfl, rfl⟩

set_option maxHeartbeats 400000 in
theorem lei_no251 (n c : Nat) (b o : Nat) (g : Nat → Int) (w : World) (hn : n ≤ maxLen) (h0 : 0 < n) (hc : ∀ i, i < n → w.cell? ⟨b, o + i, none⟩ = some (.int .u8 (g i))) (hb : g 0 = 251) :
    Calls Try.prog 12 #[.slice (some ⟨b, o, none⟩) n c] w fun e w' => e = .returned (.tuple #[.int .u64 0, .int .i64 0, .bool false]) ∧ w' = w := by
  unfold maxLen at hn
  have hc0 : w.cell? ⟨b, o, none⟩ = some (.int .u8 251) := by have := hc 0 (by omega); rw [hb] at this; simpa using this
  have hne : ((n : Int) == 0) = false := by simp; omega
  have hp : (0 : Int) < (n : Int) := by omega
  clear hb hc
  go_enter Try.func12, Try.ntmps12
  go_wp2
  go_ret3
  exact ⟨rfl, rfl⟩

set_option maxHeartbeats 400000 in
theorem lei_no255 (n c : Nat) (b o : Nat) (g : Nat → Int) (w : World) (hn : n ≤ maxLen) (h0 : 0 < n) (hc : ∀ i, i < n → w.cell? ⟨b, o + i, none⟩ = some (.int .u8 (g i))) (hb : g 0 = 255) :
    Calls Try.prog 12 #[.slice (some ⟨b, o, none⟩) n c] w fun e w' => e = .returned (.tuple #[.int .u64 0, .int .i64 0, .bool false]) ∧ w' = w := by
  unfold maxLen at hn
  have hc0 : w.cell? ⟨b, o, none⟩ = some (.int .u8 255) := by have := hc 0 (by omega); rw [hb] at this; simpa using this
  have hne : ((n : Int) == 0) = false := by simp; omega
  have hp : (0 : Int) < (n : Int) := by omega
  clear hb hc
  go_enter Try.func12, Try.ntmps12
  go_wp2
  go_ret3
  exact ⟨rfl, rfl⟩

theorem lei_nil (c : Nat) (p : Option Addr) (w : World) :
    Calls Try.prog 12 #[.slice p 0 c] w fun e w' => e = .returned (.tuple #[.int .u64 0, .int .i64 0, .bool false]) ∧ w' = w := by
  go_enter Try.func12, Try.ntmps12
  go_wp2
  go_ret3
  exact ⟨rfl, rfl⟩

set_option maxHeartbeats 400000 in
theorem lei_one (n c : Nat) (b o : Nat) (x : Int) (w : World) (hn : n ≤ maxLen) (h0 : 0 < n) (hc0 : w.cell? ⟨b, o, none⟩ = some (.int .u8 x))
    (hx : 0 ≤ x ∧ x ≤ 255) (t2 : (x == 252) = false) (t3 : (x == 253) = false) (t4 : (x == 254) = false) (t1 : (x == 251) = false) (t5 : (x == 255) = false) :
    Calls Try.prog 12 #[.slice (some ⟨b, o, none⟩) n c] w fun e w' => e = .returned (.tuple #[.int .u64 x, .int .i64 1, .bool true]) ∧ w' = w := by
  unfold maxLen at hn
  have hne : ((n : Int) == 0) = false := by simp; omega
  have hp : (0 : Int) < (n : Int) := by omega
  go_enter Try.func12, Try.ntmps12
  go_wp2
  go_ret3
  exact ⟨rfl, rfl⟩

theorem lei_yes (n c : Nat) (p : Option Addr) (b o : Nat) (g : Nat → Int) (hg : Bytes g) (w : World) (hn : n ≤ maxLen) (hp : 0 < n → p = some ⟨b, o, none⟩)
    (hc : ∀ i, i < n → w.cell? ⟨b, o + i, none⟩ = some (.int .u8 (g i))) (hh : heads g n = true) :
    Calls Try.prog 12 #[.slice p n c] w fun e w' => e = .returned (.tuple #[.int .u64 (num g), .int .i64 (hl (g 0)), .bool true]) ∧ w' = w := by
  simp only [heads, decide_eq_true_eq] at hh
  obtain ⟨h0, h1, h2⟩ := hh
  obtain rfl := hp (by omega)
  rcases hl_cases (g 0) with ⟨e, f⟩ | ⟨e, f⟩ | ⟨e, f⟩ | ⟨e, f⟩ | ⟨e, f⟩ | ⟨e2, e3, e4, e1, e5, f⟩
  · have := lei_long3 n c b o g hg w hn hc e (by omega)
    simpa [num, f] using this
  · have := lei_long4 n c b o g hg w hn hc e (by omega)
    simpa [num, f] using this
  · have := lei_long9 n c b o g hg w hn hc e (by omega)
    simpa [num, f] using this
  · exact absurd f h1
  · exact absurd f h1
  · have := lei_one n c b o (g 0) w hn (by omega) (by simpa using hc 0 (by omega)) (hg 0) (by simpa using e2) (by simpa using e3) (by simpa using e4) (by simpa using e1) (by simpa using e5)
    simpa [num, f] using this

theorem lei_no (n c : Nat) (p : Option Addr) (b o : Nat) (g : Nat → Int) (w : World) (hn : n ≤ maxLen) (hp : 0 < n → p = some ⟨b, o, none⟩)
    (hc : ∀ i, i < n → w.cell? ⟨b, o + i, none⟩ = some (.int .u8 (g i))) (hh : heads g n = false) :
    Calls Try.prog 12 #[.slice p n c] w fun e w' => e = .returned (.tuple #[.int .u64 0, .int .i64 0, .bool false]) ∧ w' = w := by
  simp only [heads, decide_eq_false_iff_not] at hh
  by_cases h0 : n = 0
  · subst h0; exact lei_nil c p w
  obtain rfl := hp (by omega)
  rcases hl_cases (g 0) with ⟨e, f⟩ | ⟨e, f⟩ | ⟨e, f⟩ | ⟨e, f⟩ | ⟨e, f⟩ | ⟨e2, e3, e4, e1, e5, f⟩
  · exact lei_short3 n c b o g w hn (by omega) hc e (by omega)
  · exact lei_short4 n c b o g w hn (by omega) hc e (by omega)
  · exact lei_short9 n c b o g w hn (by omega) hc e (by omega)
  · exact lei_no251 n c b o g w hn (by omega) hc e
  · exact lei_no255 n c b o g w hn (by omega) hc e
  · omega

end Go.Proofs.Qxb6626094a.Les
