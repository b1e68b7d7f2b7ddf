import Derived.Test.Qxb6628154aRows
import Derived.Test.Qxb6628154aFloat3
import Derived.WalkKit
import Derived.ProofKit
import Derived.OpenShut
import Derived.Below
import Derived.WalkSpells
import Derived.WalkLawsBesides
import Derived.Outline
import Derived.Deep.QuietTactic
import Derived.BigQuiet
import Derived.Laws.FloatArith
import Derived.Deep.Light
import Derived.Test.Qxb6628154aPrice
namespace Go.Proofs.Qxb6628154a.Fl
open Go.ChangeShapes Go.WideShapes Go.ChangeAt Go.RowKit
attribute [local go_sem] run_store_float

theorem cellsU {W : World} {b : Nat} {T : TypeId} {t0 t1 t2 t3 t4 : Int} {q0 q1 q2 q3 q4 : Nat} (h : W.heap[b]? = some (.cells (uCells t0 t1 t2 t3 t4 q0 q1 q2 q3 q4) T (0, 0))) :
    W.cell? ⟨b, 0, none⟩ = some (.int .i64 t0) ∧ W.cell? ⟨b, 1, none⟩ = some (.int .i64 t1) ∧ W.cell? ⟨b, 2, none⟩ = some (.int .i64 t2) ∧ W.cell? ⟨b, 3, none⟩ = some (.int .i64 t3) ∧ W.cell? ⟨b, 4, none⟩ = some (.int .i64 t4) ∧
    W.cell? ⟨b, 5, none⟩ = some (.float .f64 q0) ∧ W.cell? ⟨b, 6, none⟩ = some (.float .f64 q1) ∧ W.cell? ⟨b, 7, none⟩ = some (.float .f64 q2) ∧ W.cell? ⟨b, 8, none⟩ = some (.float .f64 q3) ∧ W.cell? ⟨b, 9, none⟩ = some (.float .f64 q4) := by
  refine ⟨?_, ?_, ?_, ?_, ?_, ?_, ?_, ?_, ?_, ?_⟩ <;> (rw [cell_of_row W b _ _ _ _ h]; rfl)
theorem cellsP {W : World} {b : Nat} {T : TypeId} {p0 p1 p2 p3 : Nat} (h : W.heap[b]? = some (.cells (pCells p0 p1 p2 p3) T (0, 0))) :
    W.cell? ⟨b, 0, none⟩ = some (.float .f64 p0) ∧ W.cell? ⟨b, 1, none⟩ = some (.float .f64 p1) ∧ W.cell? ⟨b, 2, none⟩ = some (.float .f64 p2) ∧ W.cell? ⟨b, 3, none⟩ = some (.float .f64 p3) := by
  refine ⟨?_, ?_, ?_, ?_⟩ <;> (rw [cell_of_row W b _ _ _ _ h]; rfl)

theorem carry {n k : Nat} {W W' : World} {o : Obj} (hb : Below n W W') (hk : k < n) (h : W.heap[k]? = some o) : W'.heap[k]? = some o := (hb.block k hk).trans h

/-- Behind the first call of zzUsage. -/
theorem start3 {w w3 : World} {zc pc : Array Value} (hb : Below ((w.alloc (.cells zc 24)).alloc (.cells pc 26)).heap.size ((w.alloc (.cells zc 24)).alloc (.cells pc 26)) w3) :
    w3.heap[w.heap.size]? = some (.cells zc 24 (0, 0)) ∧ w3.heap[w.heap.size + 1]? = some (.cells pc 26 (0, 0)) ∧ w.heap.size + 2 ≤ w3.heap.size ∧ Below w.heap.size w w3 := by
  have h1 : ((w.alloc (.cells zc 24)).alloc (.cells pc 26)).heap[w.heap.size]? = some (.cells zc 24 (0, 0)) := by
    rw [Below.heap_alloc _ _ _ (by simp)]; exact heap_alloc_new w _
  have h2 : ((w.alloc (.cells zc 24)).alloc (.cells pc 26)).heap[w.heap.size + 1]? = some (.cells pc 26 (0, 0)) := by
    have := heap_alloc_new (w.alloc (.cells zc 24)) (.cells pc 26)
    simpa using this
  have h3 : ((w.alloc (.cells zc 24)).alloc (.cells pc 26)).heap.size = w.heap.size + 2 := by simp
  have h4 : Below w.heap.size w ((w.alloc (.cells zc 24)).alloc (.cells pc 26)) := ((Below.refl _ _).alloc (Nat.le_refl _) _).alloc (by simp) _
  have hs := hb.size
  rw [h3] at hs hb
  exact ⟨carry hb (by omega) h1, carry hb (by omega) h2, hs, h4.trans (hb.mono (by omega))⟩

/-- A new block, then a callee that keeps what was there. -/
theorem next4 {w3 w4 : World} {uc : Array Value} {T : TypeId} (hb : Below (w3.alloc (.cells uc T)).heap.size (w3.alloc (.cells uc T)) w4) :
    w4.heap[w3.heap.size]? = some (.cells uc T (0, 0)) ∧ w3.heap.size < w4.heap.size ∧ Below w3.heap.size w3 w4 := by
  have h3 : (w3.alloc (.cells uc T)).heap.size = w3.heap.size + 1 := by simp
  have h4 : Below w3.heap.size w3 (w3.alloc (.cells uc T)) := (Below.refl _ _).alloc (Nat.le_refl _) _
  have hs := hb.size
  rw [h3] at hs hb
  exact ⟨carry hb (by omega) (heap_alloc_new w3 _), by omega, h4.trans (hb.mono (by omega))⟩

theorem St.below {w wx : World} {B n : Nat} {cs ps : Array Value} (h : St w wx B cs ps) (hn : n ≤ B) : Below n w wx :=
  ⟨h.os, h.tape, h.output, Nat.le_of_lt h.size, fun k hk => h.block k (by have := h.lt; omega) (by omega)⟩

/-! ### Too great a count, a price out of range: she says true at once -/
set_option maxRecDepth 20000 in
set_option maxHeartbeats 1000000 in
theorem law1_early (t0 t1 t2 t3 t4 : Int) (q0 q1 q2 q3 q4 p0 p1 p2 p3 : Nat) (w : World)
    (h : countB t0 = false ∨ (countB t0 = true ∧ countB t1 = false) ∨ (countB t0 = true ∧ countB t1 = true ∧ countB t2 = false) ∨ (countB t0 = true ∧ countB t1 = true ∧ countB t2 = true ∧ countB t3 = false) ∨
      (countB t0 = true ∧ countB t1 = true ∧ countB t2 = true ∧ countB t3 = true ∧
        (priceB p0 = false ∨ (priceB p0 = true ∧ priceB p1 = false) ∨ (priceB p0 = true ∧ priceB p1 = true ∧ priceB p2 = false) ∨ (priceB p0 = true ∧ priceB p1 = true ∧ priceB p2 = true ∧ priceB p3 = false)))) :
    Calls Try.prog 3 #[.agg (uCells t0 t1 t2 t3 t4 q0 q1 q2 q3 q4), .agg (pCells p0 p1 p2 p3)] w fun e w' => e = .returned (.bool true) ∧ Below w.heap.size w w' := by
  unfold uCells pCells
  have HC := hid count_any
  have HP := hid price_any
  rcases h with h | ⟨h0, h⟩ | ⟨h0, h1, h⟩ | ⟨h0, h1, h2, h⟩ | ⟨h0, h1, h2, h3, h | ⟨g0, h⟩ | ⟨g0, g1, h⟩ | ⟨g0, g1, g2, h⟩⟩
  all_goals
    go_enter Try.func3, Try.ntmps3
    go_wp2_with (first | (go_at_call 5; refine (HC.out _ _).mono ?_; rintro e w' ⟨rfl, rfl⟩) | (go_at_call 6; refine (HP.out _ _).mono ?_; rintro e w' ⟨rfl, rfl⟩))
    go_ret
    exact ⟨rfl, ((Below.refl _ _).alloc (Nat.le_refl _) _).alloc (by simp) _⟩

set_option maxRecDepth 20000 in
set_option maxHeartbeats 1000000 in
theorem law1_main (t0 t1 t2 t3 t4 : Int) (q0 q1 q2 q3 q4 p0 p1 p2 p3 : Nat) (w : World)
    (c0 : countB t0 = true) (c1 : countB t1 = true) (c2 : countB t2 = true) (c3 : countB t3 = true)
    (g0 : priceB p0 = true) (g1 : priceB p1 = true) (g2 : priceB p2 = true) (g3 : priceB p3 = true)
    (x0 x1 x2 x3 sx1 sx2 sx y0 y1 y2 y3 sy1 sy2 sy z0 z1 z2 z3 zt : Nat)
    (HX0 : Hid (∀ w, Calls Try.prog 12 #[.int .i64 t0, .float .f64 p0] w fun e w' => e = .returned (.float .f64 x0) ∧ w = w'))
    (HX1 : Hid (∀ w, Calls Try.prog 12 #[.int .i64 t1, .float .f64 p1] w fun e w' => e = .returned (.float .f64 x1) ∧ w = w'))
    (HX2 : Hid (∀ w, Calls Try.prog 12 #[.int .i64 t2, .float .f64 p2] w fun e w' => e = .returned (.float .f64 x2) ∧ w = w'))
    (HX3 : Hid (∀ w, Calls Try.prog 12 #[.int .i64 t3, .float .f64 p3] w fun e w' => e = .returned (.float .f64 x3) ∧ w = w'))
    (HY0 : Hid (∀ w, Calls Try.prog 12 #[.int .i64 (2 * t0), .float .f64 p0] w fun e w' => e = .returned (.float .f64 y0) ∧ w = w'))
    (HY1 : Hid (∀ w, Calls Try.prog 12 #[.int .i64 (2 * t1), .float .f64 p1] w fun e w' => e = .returned (.float .f64 y1) ∧ w = w'))
    (HY2 : Hid (∀ w, Calls Try.prog 12 #[.int .i64 (2 * t2), .float .f64 p2] w fun e w' => e = .returned (.float .f64 y2) ∧ w = w'))
    (HY3 : Hid (∀ w, Calls Try.prog 12 #[.int .i64 (2 * t3), .float .f64 p3] w fun e w' => e = .returned (.float .f64 y3) ∧ w = w'))
    (AX1 : Hid (Ieee.double.add x0 x1 = some sx1)) (AX2 : Hid (Ieee.double.add sx1 x2 = some sx2)) (AX3 : Hid (Ieee.double.add sx2 x3 = some sx))
    (AY1 : Hid (Ieee.double.add y0 y1 = some sy1)) (AY2 : Hid (Ieee.double.add sy1 y2 = some sy2)) (AY3 : Hid (Ieee.double.add sy2 y3 = some sy))
    (M0 : Hid (Ieee.double.mul two x0 = some z0 ∧ Ieee.double.order y0 z0 = some .eq)) (M1 : Hid (Ieee.double.mul two x1 = some z1 ∧ Ieee.double.order y1 z1 = some .eq))
    (M2 : Hid (Ieee.double.mul two x2 = some z2 ∧ Ieee.double.order y2 z2 = some .eq)) (M3 : Hid (Ieee.double.mul two x3 = some z3 ∧ Ieee.double.order y3 z3 = some .eq))
    (MT : Hid (Ieee.double.mul two sx = some zt ∧ Ieee.double.order sy zt = some .eq)) (MS : Hid (Ieee.double.order sx sx = some .eq)) :
    Calls Try.prog 3 #[.agg (uCells t0 t1 t2 t3 t4 q0 q1 q2 q3 q4), .agg (pCells p0 p1 p2 p3)] w fun e w' => e = .returned (.bool true) ∧ Below w.heap.size w w' := by
  have b0 := of_decide_eq_true c0
  have b1 := of_decide_eq_true c1
  have b2 := of_decide_eq_true c2
  have b3 := of_decide_eq_true c3
  have HC := hid count_any
  have HP := hid price_any
  unfold uCells pCells
  go_enter Try.func3, Try.ntmps3
  go_wp2_with (first | (go_at_call 5; refine (HC.out _ _).mono ?_; rintro e w' ⟨rfl, rfl⟩) | (go_at_call 6; refine (HP.out _ _).mono ?_; rintro e w' ⟨rfl, rfl⟩))
  refine (usage_any t0 t1 t2 t3 t4 q0 q1 q2 q3 q4 _).mono ?_
  rintro e w3 ⟨rfl, hb3⟩
  obtain ⟨Z3, P3, hs3, BW3⟩ := start3 (zc := uCells t0 t1 t2 t3 t4 q0 q1 q2 q3 q4) (pc := pCells p0 p1 p2 p3) hb3
  have hz3 : w.heap.size + 1 < w3.heap.size := by omega
  have hz3' : w.heap.size < w3.heap.size := by omega
  obtain ⟨m0, m1, m2, m3⟩ := cellsP P3
  have HZ3 := hid Z3
  have HP3 := hid P3
  have HB3 := hid BW3
  clear Z3 P3 BW3 hb3
  go_wp2_with fail
  refine (prices_any p0 p1 p2 p3 _).mono ?_
  rintro e w4 ⟨rfl, hb4⟩
  obtain ⟨A4, hs4, BW4⟩ := next4 (uc := uCells t0 t1 t2 t3 t4 q0 q1 q2 q3 q4) hb4
  have HZ4 := hid (carry BW4 (by omega) HZ3.out)
  have HP4 := hid (carry BW4 (by omega) HP3.out)
  have HB4 := hid (HB3.out.trans (BW4.mono (by omega)))
  have HA4 := hid A4
  clear A4 BW4 hb4 m0 m1 m2 m3 HZ3 HP3 HB3
  go_wp2_with fail
  refine (priced_ok w3.heap.size t0 t1 t2 t3 t4 q0 q1 q2 q3 q4 p0 p1 p2 p3 w4 x0 x1 x2 x3 sx1 sx2 sx HX0 HX1 HX2 HX3 AX1.out AX2.out AX3.out HA4.out).mono ?_
  rintro e w5 ⟨rfl, hst⟩
  have hw : wrap64 (wrap64 (wrap64 (t0 + t1) + t2) + t3) = t0 + t1 + t2 + t3 := by unfold wrap64; omega
  rw [hw] at hst
  clear hw
  have hs5 := hst.size
  have HA5 := hid hst.at_
  have HZ5 := hid ((hst.block _ (by omega) (by omega)).trans HZ4.out)
  have HP5 := hid ((hst.block _ (by omega) (by omega)).trans HP4.out)
  have HB5 := hid (HB4.out.trans (hst.below (by omega)))
  clear hst HZ4 HP4 HB4 HA4
  obtain ⟨a0, a1, a2, a3, a4, a5, a6, a7, a8, a9⟩ := cellsU HZ5.out
  have hz5 : w.heap.size < w5.heap.size := by omega
  go_wp2_with fail
  refine (usage_any (2 * t0) (2 * t1) (2 * t2) (2 * t3) t4 q0 q1 q2 q3 q4 _).mono ?_
  rintro e w6 ⟨rfl, hb6⟩
  obtain ⟨_, hs6, BW6⟩ := next4 (uc := uCells (2 * t0) (2 * t1) (2 * t2) (2 * t3) t4 q0 q1 q2 q3 q4) hb6
  have HZ6 := hid (carry BW6 (by omega) HZ5.out)
  have HP6 := hid (carry BW6 (by omega) HP5.out)
  have HA6 := hid (carry BW6 (by omega) HA5.out)
  have HB6 := hid (HB5.out.trans (BW6.mono (by omega)))
  clear BW6 hb6 a0 a1 a2 a3 a4 a5 a6 a7 a8 a9 HZ5 HP5 HA5 HB5 hz5 hz3 hz3'
  have hz6 : w.heap.size + 1 < w6.heap.size := by omega
  obtain ⟨m0, m1, m2, m3⟩ := cellsP HP6.out
  go_wp2_with fail
  refine (prices_any p0 p1 p2 p3 _).mono ?_
  rintro e w7 ⟨rfl, hb7⟩
  obtain ⟨B7, hs7, BW7⟩ := next4 (uc := uCells (2 * t0) (2 * t1) (2 * t2) (2 * t3) t4 q0 q1 q2 q3 q4) hb7
  have HZ7 := hid (carry BW7 (by omega) HZ6.out)
  have HA7 := hid (carry BW7 (by omega) HA6.out)
  have HB7 := hid (HB6.out.trans (BW7.mono (by omega)))
  have HBB7 := hid B7
  clear B7 BW7 hb7 m0 m1 m2 m3 HZ6 HP6 HA6 HB6 hz6
  go_wp2_with fail
  refine (priced_ok w6.heap.size (2 * t0) (2 * t1) (2 * t2) (2 * t3) t4 q0 q1 q2 q3 q4 p0 p1 p2 p3 w7 y0 y1 y2 y3 sy1 sy2 sy HY0 HY1 HY2 HY3 AY1.out AY2.out AY3.out HBB7.out).mono ?_
  rintro e w8 ⟨rfl, hst⟩
  have hw : wrap64 (wrap64 (wrap64 (2 * t0 + 2 * t1) + 2 * t2) + 2 * t3) = 2 * (t0 + t1 + t2 + t3) := by unfold wrap64; omega
  rw [hw] at hst
  clear hw
  have HBB8 := hid hst.at_
  have HZ8 := hid ((hst.block _ (by omega) (by omega)).trans HZ7.out)
  have HA8 := hid ((hst.block _ (by omega) (by omega)).trans HA7.out)
  have HB8 := hid (HB7.out.trans (hst.below (by omega)))
  clear hst HZ7 HA7 HB7 HBB7 HX0 HX1 HX2 HX3 HY0 HY1 HY2 HY3 HC HP c0 c1 c2 c3 g0 g1 g2 g3
  obtain ⟨a0, a1, a2, a3, a4, a5, a6, a7, a8, a9⟩ := cellsU HZ8.out
  obtain ⟨u0, u1, u2, u3, u4, u5, u6, u7, u8, u9⟩ := cellsU HA8.out
  obtain ⟨v0, v1, v2, v3, v4, v5, v6, v7, v8, v9⟩ := cellsU HBB8.out
  clear a4 a5 a6 a7 a8 a9 u0 u1 u2 u3 v0 v1 v2 v3
  have r1 := fun (w : World) (t' : TypeId) => run_float_arith (P := Try.prog) w .add t' .f64 x0 x1 sx1 AX1.out
  have r2 := fun (w : World) (t' : TypeId) => run_float_arith (P := Try.prog) w .add t' .f64 sx1 x2 sx2 AX2.out
  have r3 := fun (w : World) (t' : TypeId) => run_float_arith (P := Try.prog) w .add t' .f64 sx2 x3 sx AX3.out
  have s0 := fun (w : World) (t' : TypeId) => run_float_arith (P := Try.prog) w .mul t' .f64 4611686018427387904 x0 z0 M0.out.1
  have s1 := fun (w : World) (t' : TypeId) => run_float_arith (P := Try.prog) w .mul t' .f64 4611686018427387904 x1 z1 M1.out.1
  have s2 := fun (w : World) (t' : TypeId) => run_float_arith (P := Try.prog) w .mul t' .f64 4611686018427387904 x2 z2 M2.out.1
  have s3 := fun (w : World) (t' : TypeId) => run_float_arith (P := Try.prog) w .mul t' .f64 4611686018427387904 x3 z3 M3.out.1
  have s4 := fun (w : World) (t' : TypeId) => run_float_arith (P := Try.prog) w .mul t' .f64 4611686018427387904 sx zt MT.out.1
  have e0 : FloatKind.f64.format.order y0 z0 = some .eq := M0.out.2
  have e1 : FloatKind.f64.format.order y1 z1 = some .eq := M1.out.2
  have e2 : FloatKind.f64.format.order y2 z2 = some .eq := M2.out.2
  have e3 : FloatKind.f64.format.order y3 z3 = some .eq := M3.out.2
  have e4 : FloatKind.f64.format.order sy zt = some .eq := MT.out.2
  have e5 : FloatKind.f64.format.order sx sx = some .eq := MS.out
  clear AX1 AX2 AX3 AY1 AY2 AY3 M0 M1 M2 M3 MT MS HZ8 HA8 HBB8
  go_wp2
  go_ret
  exact ⟨rfl, HB8.out⟩

end Go.Proofs.Qxb6628154a.Fl
