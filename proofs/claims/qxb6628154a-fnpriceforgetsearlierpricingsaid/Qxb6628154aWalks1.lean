import Derived.Test.Qxb6628154aRows
import Derived.Test.Qxb6628154aFloat3
import Derived.WalkKit
import Derived.ProofKit
import Derived.OpenShut
import Derived.Below
import Derived.WalkSpells
import Derived.WalkLawsBesides
import Derived.Outline
import Derived.Deep.QuietTactic
import Derived.BigQuiet
import Derived.Laws.FloatArith
import Derived.Deep.Light
namespace Go.Proofs.Qxb6628154a.Fl
open Go.ChangeShapes Go.WideShapes Go.ChangeAt Go.RowKit

theorem hid {p : Prop} (h : p) : Hid p := h
theorem ret_bool {a b : Bool} (h : a = b) : Ending.returned (.bool a) = .returned (.bool b) := by rw [h]

theorem run_store_float {P : Program} (w : World) (a : Addr) (m : Mode) (k : FloatKind) (n : Nat) : (store a (.float k n) m).run P w = stored P w a (.float k n) m := run_store P w a _ m rfl
attribute [local go_sem] run_store_float

/-! ### zzCountOK -/
def countB (x : Int) : Bool := decide (-576460752303423487 ≤ x ∧ x ≤ 576460752303423487)
theorem count_any (x : Int) (w : World) : Calls Try.prog 5 #[.int .i64 x] w fun e w' => e = .returned (.bool (countB x)) ∧ w = w' := by
  by_cases h : -576460752303423487 ≤ x
  · have HC : Hid (countB x = decide (x ≤ 576460752303423487)) := by show _ = _; simp [countB, h]
    go_enter Try.func5, Try.ntmps5
    go_wp2
    go_ret
    exact ⟨ret_bool HC.out.symm, rfl⟩
  · have HC : Hid (countB x = false) := by show _ = _; simp [countB, h]
    have h' : x < -576460752303423487 := by omega
    go_enter Try.func5, Try.ntmps5
    go_wp2
    go_ret
    exact ⟨ret_bool HC.out.symm, rfl⟩

/-! ### zzPriceOK -/
theorem price_any (x : Nat) (w : World) : Calls Try.prog 6 #[.float .f64 x] w fun e w' => e = .returned (.bool (priceB x)) ∧ w = w' := by
  have hF : FloatKind.f64.format = Ieee.double := rfl
  have HF := hid hF
  clear hF
  go_enter Try.func6, Try.ntmps6
  go_wp2
  all_goals
    go_ret
    refine ⟨ret_bool ?_, rfl⟩
    go_light
    have hF := HF.out
    by_cases ha : Ieee.double.order x 4786511204640096256 = some Ordering.lt <;> by_cases hb : Ieee.double.order x 4786511204640096256 = some Ordering.eq <;> simp_all [priceB, eqB, geB, leB, c1, c2, c3, c4]

theorem perm_ok (t : Int) (p a x : Nat) (w : World) (ha : Ieee.double.mul (ofInt t) p = some a) (hx : Ieee.double.div a million = some x) :
    Calls Try.prog 12 #[.int .i64 t, .float .f64 p] w fun e w' => e = .returned (.float .f64 x) ∧ w = w' := by
  have r1 := fun (w : World) (t' : TypeId) => run_float_arith (P := Try.prog) w .mul t' .f64 (floatOfInt .f64 t) p a ha
  have r2 := fun (w : World) (t' : TypeId) => run_float_arith (P := Try.prog) w .quo t' .f64 a 4696837146684686336 x hx
  clear ha hx
  go_enter Try.func12, Try.ntmps12
  go_wp2
  go_ret
  exact ⟨rfl, rfl⟩

theorem prices_any (p0 p1 p2 p3 : Nat) (w : World) :
    Calls Try.prog 9 #[.agg #[.float .f64 p0, .float .f64 p1, .float .f64 p2, .float .f64 p3]] w fun e w' => e = .returned (.agg #[.float .f64 p0, .float .f64 p1, .float .f64 p2, .float .f64 p3]) ∧ Below w.heap.size w w' := by
  go_enter Try.func9, Try.ntmps9
  go_wp2
  exact bodyPost_ret (v := .agg #[.float .f64 p0, .float .f64 p1, .float .f64 p2, .float .f64 p3]) (by simp [results, Try.results9, go_sem]) rfl ⟨rfl, ((Below.refl _ _).alloc (Nat.le_refl _) _).alloc (by simp) _⟩

theorem usage_any (t0 t1 t2 t3 t4 : Int) (p0 p1 p2 p3 p4 : Nat) (w : World) :
    Calls Try.prog 7 #[.agg #[.int .i64 t0, .int .i64 t1, .int .i64 t2, .int .i64 t3, .int .i64 t4, .float .f64 p0, .float .f64 p1, .float .f64 p2, .float .f64 p3, .float .f64 p4]] w fun e w' => e = .returned (.agg #[.int .i64 t0, .int .i64 t1, .int .i64 t2, .int .i64 t3, .int .i64 t4, .float .f64 p0, .float .f64 p1, .float .f64 p2, .float .f64 p3, .float .f64 p4]) ∧ Below w.heap.size w w' := by
  go_enter Try.func7, Try.ntmps7
  go_wp2
  exact bodyPost_ret (v := .agg #[.int .i64 t0, .int .i64 t1, .int .i64 t2, .int .i64 t3, .int .i64 t4, .float .f64 p0, .float .f64 p1, .float .f64 p2, .float .f64 p3, .float .f64 p4]) (by simp [results, Try.results7, go_sem]) rfl ⟨rfl, ((Below.refl _ _).alloc (Nat.le_refl _) _).alloc (by simp) _⟩

end Go.Proofs.Qxb6628154a.Fl
