import Derived.Test.Qxb6628154aRows
import Derived.Test.Qxb6628154aFloat3
import Derived.WalkKit
import Derived.ProofKit
import Derived.OpenShut
import Derived.Below
import Derived.WalkSpells
import Derived.WalkLawsBesides
import Derived.Outline
import Derived.Deep.QuietTactic
import Derived.BigQuiet
import Derived.Laws.FloatArith
import Derived.Deep.Light
import Derived.Test.Qxb6628154aWalks1
import Derived.Test.Qxb6628154aPrice
import Derived.Test.Qxb6628154aAny
namespace Go.Proofs.Qxb6628154a.Fl
open Go.ChangeShapes Go.WideShapes Go.ChangeAt Go.RowKit
attribute [local go_sem] run_store_float

/-! ### zzSameF -/
theorem same_any (a b : Nat) (w : World) : Calls Try.prog 13 #[.float .f64 a, .float .f64 b] w fun e w' => e = .returned (.bool (sameB a b)) ∧ w = w' := by
  cases h1 : eqB a b
  · cases h2 : eqB a a
    · have e1 : (FloatKind.f64.format.order a b == some .eq) = false := h1
      have e2 : (FloatKind.f64.format.order a a != some .eq) = true := by
        show (!(Ieee.double.order a a == some .eq)) = true
        have : (Ieee.double.order a a == some .eq) = false := h2
        rw [this]; rfl
      have HS : Hid (sameB a b = (FloatKind.f64.format.order b b != some .eq)) := by
        show sameB a b = !(Ieee.double.order b b == some .eq)
        unfold sameB
        rw [h1, h2]; simp [eqB]
      clear h1 h2
      go_enter Try.func13, Try.ntmps13
      go_wp2
      go_ret
      exact ⟨ret_bool HS.out.symm, rfl⟩
    · have e1 : (FloatKind.f64.format.order a b == some .eq) = false := h1
      have e2 : (FloatKind.f64.format.order a a != some .eq) = false := by
        show (!(Ieee.double.order a a == some .eq)) = false
        have : (Ieee.double.order a a == some .eq) = true := h2
        rw [this]; rfl
      have HS : Hid (sameB a b = false) := by show _ = _; unfold sameB; rw [h1, h2]; rfl
      clear h1 h2
      go_enter Try.func13, Try.ntmps13
      go_wp2
      go_ret
      exact ⟨ret_bool HS.out.symm, rfl⟩
  · have e1 : (FloatKind.f64.format.order a b == some .eq) = true := h1
    have HS : Hid (sameB a b = true) := by show _ = _; unfold sameB; rw [h1]; rfl
    clear h1
    go_enter Try.func13, Try.ntmps13
    go_wp2
    go_ret
    exact ⟨ret_bool HS.out.symm, rfl⟩

/-! ### zzSameUsage, at two usages that are alike -/
set_option maxRecDepth 20000 in
set_option maxHeartbeats 1000000 in
theorem sameUsage (t0 t1 t2 t3 t4 : Int) (x0 x1 x2 x3 x4 y0 y1 y2 y3 y4 : Nat) (w : World) (h0 : sameB x0 y0 = true) (h1 : sameB x1 y1 = true) (h2 : sameB x2 y2 = true) (h3 : sameB x3 y3 = true) (h4 : sameB x4 y4 = true) :
    Calls Try.prog 10 #[.agg #[.int .i64 t0, .int .i64 t1, .int .i64 t2, .int .i64 t3, .int .i64 t4, .float .f64 x0, .float .f64 x1, .float .f64 x2, .float .f64 x3, .float .f64 x4], .agg #[.int .i64 t0, .int .i64 t1, .int .i64 t2, .int .i64 t3, .int .i64 t4, .float .f64 y0, .float .f64 y1, .float .f64 y2, .float .f64 y3, .float .f64 y4]] w fun e w' => e = .returned (.bool true) ∧ Below w.heap.size w w' := by
  have HS := hid same_any
  go_enter Try.func10, Try.ntmps10
  go_wp2_with (go_at_call 13; refine (HS.out _ _ _).mono ?_; rintro e w' ⟨rfl, rfl⟩)
  go_ret
  exact ⟨rfl, ((Below.refl _ _).alloc (Nat.le_refl _) _).alloc (by simp) _⟩

/-! ### zzSignOK -/
set_option maxHeartbeats 1000000 in
theorem sign_any (t : Int) (p c : Nat) (w : World) (ht : -9223372036854775808 ≤ t ∧ t ≤ 9223372036854775807) (hp : p < 18446744073709551616) (hc : Res (costO t p) c) :
    Calls Try.prog 11 #[.int .i64 t, .float .f64 p, .float .f64 c] w fun e w' => e = .returned (.bool true) ∧ w = w' := by
  have HP := hid (price_any p)
  cases hg : priceB p
  · clear ht hc
    go_enter Try.func11, Try.ntmps11
    go_wp2_with (go_at_call 6; refine (HP.out _).mono ?_; rintro e w' ⟨rfl, rfl⟩)
    go_ret
    exact ⟨rfl, rfl⟩
  obtain ⟨a, x, ha, hx, hs⟩ := cost_sign t p (by omega) (price_fin hp hg)
  have hcx : c = x := by
    have : costO t p = some x := by unfold costO; rw [ha]; exact hx
    rcases hc with hc | ⟨hc, _⟩
    · rw [this] at hc; exact (Option.some.inj hc).symm
    · rw [this] at hc; cases hc
  subst hcx
  clear hc ha hx
  rcases hs with ⟨rfl, hz⟩ | ⟨hzp, hz⟩ | ⟨s, m, e, m', e', h0, hn, hm⟩
  · have e1 : FloatKind.f64.format.order c 0 = some .eq := order_zero_0 hz
    clear hz ht
    go_enter Try.func11, Try.ntmps11
    go_wp2_with (go_at_call 6; refine (HP.out _).mono ?_; rintro e w' ⟨rfl, rfl⟩)
    go_ret
    exact ⟨rfl, rfl⟩
  · have e1 : FloatKind.f64.format.order c 0 = some .eq := order_zero_0 hz
    have e2 : FloatKind.f64.format.order p 0 = some .eq := order_zero_0 hzp
    clear hz hzp ht
    go_enter Try.func11, Try.ntmps11
    go_wp2_with (go_at_call 6; refine (HP.out _).mono ?_; rintro e w' ⟨rfl, rfl⟩)
    all_goals
      go_ret
      exact ⟨rfl, rfl⟩
  · have e1 : FloatKind.f64.format.order c 0 = some (if (decide (t < 0) ^^ s) then .lt else .gt) := order_norm_zero hm
    have e2 : FloatKind.f64.format.order p 0 = some (if s then .lt else .gt) := order_norm_zero hn
    have t0 : (t == 0) = false := by simpa using h0
    clear hn hm
    by_cases hlt : t < 0
    · have hd : decide (t < 0) = true := decide_eq_true hlt
      rw [hd] at e1
      have hng : decide (0 < t) = false := decide_eq_false (by omega)
      clear hd h0 ht
      cases s
      all_goals
        simp only [Bool.true_xor, Bool.not_false, Bool.not_true, if_true, Bool.false_eq_true, if_false] at e1 e2
        go_enter Try.func11, Try.ntmps11
        go_wp2_with (go_at_call 6; refine (HP.out _).mono ?_; rintro e w' ⟨rfl, rfl⟩)
        go_ret
        exact ⟨rfl, rfl⟩
    · have hd : decide (t < 0) = false := decide_eq_false hlt
      rw [hd] at e1
      have hng : 0 < t := by omega
      clear hd h0 ht
      cases s
      all_goals
        simp only [Bool.false_xor, if_true, Bool.false_eq_true, if_false] at e1 e2
        go_enter Try.func11, Try.ntmps11
        go_wp2_with (go_at_call 6; refine (HP.out _).mono ?_; rintro e w' ⟨rfl, rfl⟩)
        go_ret
        exact ⟨rfl, rfl⟩

end Go.Proofs.Qxb6628154a.Fl
