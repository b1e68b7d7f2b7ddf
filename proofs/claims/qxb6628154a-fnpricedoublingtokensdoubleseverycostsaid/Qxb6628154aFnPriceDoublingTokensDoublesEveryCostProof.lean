/-
  THE PROOF OF 'Rows.FnPriceDoublingTokensDoublesEveryCostSaid': the frame (after the guide's own for slices: every argument is read again through 'Below.trod'), the arguments being structs by value; the walk out of the Law texts.
-/
import Derived.Test.Qxb6628154aRows
import Derived.WalkKit
import Derived.ProofKit
import Derived.OpenShut
import Derived.ShutString
import Derived.ChangeOld
import Derived.Below
import Derived.Carry
import Derived.Test.Qxb6628154aLaw1
namespace Go.Proofs.Qxb6628154a.fnPriceDoublingTokensDoublesEveryCost
open Go.ChangeShapes Go.WideShapes Go.ChangeAt Go.RowKit
open Fl (uCells pCells)
set_option linter.unusedVariables false

theorem own : ownKnob Try.prog.godebug = none := by kernel_rfl
theorem laidOut : laidOutB Try.prog = true := by kernel_rfl

/-! ### OPENING A STRUCT THAT IS HANDED BY VALUE -/
theorem types24 : Try.prog.cellTypes Try.prog.depth 24 = some [3, 3, 3, 3, 3, 22, 22, 22, 22, 22] := by kernel_rfl
theorem types26 : Try.prog.cellTypes Try.prog.depth 26 = some [22, 22, 22, 22] := by kernel_rfl
theorem cells24 : Try.prog.cellsOf 24 = 10 := by kernel_rfl
theorem cells26 : Try.prog.cellsOf 26 = 4 := by kernel_rfl

theorem row_of {w : World} {r : Reach} {b : Nat} {t : TypeId} {v : Value} {fs : Array Field} {ts : List TypeId} {n : Nat} (hu : Try.prog.underlying t = some (.struct fs)) (hts : Try.prog.cellTypes Try.prog.depth t = some ts)
    (hc : Try.prog.cellsOf t = n) (hn : ts.length = n) (h : Value.okWide Try.prog w r b t v) :
    ∃ cs : Array Value, v = .agg cs ∧ cs.size = n ∧ ∀ (i : Nat) (c : Value) (u : TypeId), cs[i]? = some c → ts[i]? = some u → Cell.okWide Try.prog w r b u c := by
  simp only [Value.okWide, hu] at h
  obtain ⟨cs, rfl, hs, ts', h1, _, h3⟩ := h
  rw [hts] at h1
  obtain rfl := Option.some.inj h1
  refine ⟨cs, rfl, hs.trans hc, fun i c u hi hu' => ?_⟩
  obtain ⟨u', h4, h5⟩ := h3 i c hi
  have hlt : i < ts.length := (List.getElem?_eq_some_iff.1 hu').1
  rw [Nat.mod_eq_of_lt hlt, hu'] at h4
  obtain rfl := Option.some.inj h4
  exact h5

theorem cell_int {w : World} {r : Reach} {b : Nat} {c : Value} (h : Cell.okWide Try.prog w r b 3 c) : ∃ n, c = .int .i64 n ∧ -9223372036854775808 ≤ n ∧ n ≤ 9223372036854775807 := by
  simp only [Cell.okWide, Try.underlying3] at h
  cases c <;> simp_all [Cell.ok, Try.underlying3, IntKind.has, IntKind.min, IntKind.max, IntKind.signed, IntKind.bits]

theorem cell_float {w : World} {r : Reach} {b : Nat} {c : Value} (h : Cell.okWide Try.prog w r b 22 c) : ∃ n, c = .float .f64 n ∧ n < 18446744073709551616 := by
  simp only [Cell.okWide, Try.underlying22] at h
  cases c <;> simp_all [Cell.ok, Try.underlying22, FloatKind.has]

theorem open24 {w : World} {r : Reach} {b : Nat} {v : Value} (h : Value.okWide Try.prog w r b 24 v) :
    ∃ (t0 t1 t2 t3 t4 : Int) (q0 q1 q2 q3 q4 : Nat), v = .agg (uCells t0 t1 t2 t3 t4 q0 q1 q2 q3 q4) ∧ (-9223372036854775808 ≤ t0 ∧ t0 ≤ 9223372036854775807) ∧ (-9223372036854775808 ≤ t1 ∧ t1 ≤ 9223372036854775807) ∧ (-9223372036854775808 ≤ t2 ∧ t2 ≤ 9223372036854775807) ∧ (-9223372036854775808 ≤ t3 ∧ t3 ≤ 9223372036854775807) := by
  obtain ⟨cs, rfl, hs, hc⟩ := row_of Try.underlying24 types24 cells24 rfl h
  obtain ⟨l⟩ := cs
  match l, hs with
  | [c0, c1, c2, c3, c4, c5, c6, c7, c8, c9], _ =>
    obtain ⟨t0, rfl, b0⟩ := cell_int (hc 0 c0 3 rfl rfl)
    obtain ⟨t1, rfl, b1⟩ := cell_int (hc 1 c1 3 rfl rfl)
    obtain ⟨t2, rfl, b2⟩ := cell_int (hc 2 c2 3 rfl rfl)
    obtain ⟨t3, rfl, b3⟩ := cell_int (hc 3 c3 3 rfl rfl)
    obtain ⟨t4, rfl, _⟩ := cell_int (hc 4 c4 3 rfl rfl)
    obtain ⟨q0, rfl, _⟩ := cell_float (hc 5 c5 22 rfl rfl)
    obtain ⟨q1, rfl, _⟩ := cell_float (hc 6 c6 22 rfl rfl)
    obtain ⟨q2, rfl, _⟩ := cell_float (hc 7 c7 22 rfl rfl)
    obtain ⟨q3, rfl, _⟩ := cell_float (hc 8 c8 22 rfl rfl)
    obtain ⟨q4, rfl, _⟩ := cell_float (hc 9 c9 22 rfl rfl)
    exact ⟨t0, t1, t2, t3, t4, q0, q1, q2, q3, q4, rfl, b0, b1, b2, b3⟩

theorem open26 {w : World} {r : Reach} {b : Nat} {v : Value} (h : Value.okWide Try.prog w r b 26 v) :
    ∃ (p0 p1 p2 p3 : Nat), v = .agg (pCells p0 p1 p2 p3) ∧ p0 < 18446744073709551616 ∧ p1 < 18446744073709551616 ∧ p2 < 18446744073709551616 ∧ p3 < 18446744073709551616 := by
  obtain ⟨cs, rfl, hs, hc⟩ := row_of Try.underlying26 types26 cells26 rfl h
  obtain ⟨l⟩ := cs
  match l, hs with
  | [c0, c1, c2, c3], _ =>
    obtain ⟨p0, rfl, b0⟩ := cell_float (hc 0 c0 22 rfl rfl)
    obtain ⟨p1, rfl, b1⟩ := cell_float (hc 1 c1 22 rfl rfl)
    obtain ⟨p2, rfl, b2⟩ := cell_float (hc 2 c2 22 rfl rfl)
    obtain ⟨p3, rfl, b3⟩ := cell_float (hc 3 c3 22 rfl rfl)
    exact ⟨p0, p1, p2, p3, rfl, b0, b1, b2, b3⟩

/-! ### STEP 1: THE WALK -/
open Fl in
theorem walk_cells (t0 t1 t2 t3 t4 : Int) (q0 q1 q2 q3 q4 p0 p1 p2 p3 : Nat) (w : World) (b0 : p0 < 18446744073709551616) (b1 : p1 < 18446744073709551616) (b2 : p2 < 18446744073709551616) (b3 : p3 < 18446744073709551616) :
    Calls Try.prog 3 #[.agg (uCells t0 t1 t2 t3 t4 q0 q1 q2 q3 q4), .agg (pCells p0 p1 p2 p3)] w fun e w' => e = .returned (.bool true) ∧ Below w.heap.size w w' := by
  cases c0 : countB t0
  · exact law1_early _ _ _ _ _ _ _ _ _ _ _ _ _ _ w (.inl c0)
  cases c1 : countB t1
  · exact law1_early _ _ _ _ _ _ _ _ _ _ _ _ _ _ w (.inr (.inl ⟨c0, c1⟩))
  cases c2 : countB t2
  · exact law1_early _ _ _ _ _ _ _ _ _ _ _ _ _ _ w (.inr (.inr (.inl ⟨c0, c1, c2⟩)))
  cases c3 : countB t3
  · exact law1_early _ _ _ _ _ _ _ _ _ _ _ _ _ _ w (.inr (.inr (.inr (.inl ⟨c0, c1, c2, c3⟩))))
  cases g0 : priceB p0
  · exact law1_early _ _ _ _ _ _ _ _ _ _ _ _ _ _ w (.inr (.inr (.inr (.inr ⟨c0, c1, c2, c3, .inl g0⟩))))
  cases g1 : priceB p1
  · exact law1_early _ _ _ _ _ _ _ _ _ _ _ _ _ _ w (.inr (.inr (.inr (.inr ⟨c0, c1, c2, c3, .inr (.inl ⟨g0, g1⟩)⟩))))
  cases g2 : priceB p2
  · exact law1_early _ _ _ _ _ _ _ _ _ _ _ _ _ _ w (.inr (.inr (.inr (.inr ⟨c0, c1, c2, c3, .inr (.inr (.inl ⟨g0, g1, g2⟩))⟩))))
  cases g3 : priceB p3
  · exact law1_early _ _ _ _ _ _ _ _ _ _ _ _ _ _ w (.inr (.inr (.inr (.inr ⟨c0, c1, c2, c3, .inr (.inr (.inr ⟨g0, g1, g2, g3⟩))⟩))))
  have k0 := of_decide_eq_true c0
  have k1 := of_decide_eq_true c1
  have k2 := of_decide_eq_true c2
  have k3 := of_decide_eq_true c3
  obtain ⟨a0, x0, e0, y0, ha0, hx0, he0, hy0, P0⟩ := cost_pair t0 p0 (by omega) (price_fin b0 g0)
  obtain ⟨a1, x1, e1, y1, ha1, hx1, he1, hy1, P1⟩ := cost_pair t1 p1 (by omega) (price_fin b1 g1)
  obtain ⟨a2, x2, e2, y2, ha2, hx2, he2, hy2, P2⟩ := cost_pair t2 p2 (by omega) (price_fin b2 g2)
  obtain ⟨a3, x3, e3, y3, ha3, hx3, he3, hy3, P3⟩ := cost_pair t3 p3 (by omega) (price_fin b3 g3)
  obtain ⟨sx1, sy1, A1, B1, S1⟩ := add_pair P0 P1 (by omega) (by omega)
  obtain ⟨sx2, sy2, A2, B2, S2⟩ := add_pair S1 (P2.wide (by omega) (by omega)) (by omega) (by omega)
  obtain ⟨sx, sy, A3, B3, S3⟩ := add_pair S2 (P3.wide (by omega) (by omega)) (by omega) (by omega)
  obtain ⟨z0, m0⟩ := twice_pair P0 (by omega)
  obtain ⟨z1, m1⟩ := twice_pair P1 (by omega)
  obtain ⟨z2, m2⟩ := twice_pair P2 (by omega)
  obtain ⟨z3, m3⟩ := twice_pair P3 (by omega)
  obtain ⟨zt, mt⟩ := twice_pair S3 (by omega)
  exact law1_main t0 t1 t2 t3 t4 q0 q1 q2 q3 q4 p0 p1 p2 p3 w c0 c1 c2 c3 g0 g1 g2 g3 x0 x1 x2 x3 sx1 sx2 sx y0 y1 y2 y3 sy1 sy2 sy z0 z1 z2 z3 zt
    (fun w => perm_ok t0 p0 a0 x0 w ha0 hx0) (fun w => perm_ok t1 p1 a1 x1 w ha1 hx1) (fun w => perm_ok t2 p2 a2 x2 w ha2 hx2) (fun w => perm_ok t3 p3 a3 x3 w ha3 hx3)
    (fun w => perm_ok (2 * t0) p0 e0 y0 w he0 hy0) (fun w => perm_ok (2 * t1) p1 e1 y1 w he1 hy1) (fun w => perm_ok (2 * t2) p2 e2 y2 w he2 hy2) (fun w => perm_ok (2 * t3) p3 e3 y3 w he3 hy3)
    A1 A2 A3 B1 B2 B3 m0 m1 m2 m3 mt (pair_self S3)

theorem walk (v0 v1 : Value) (w : World) (base : Nat) (o0 : Value.okWide Try.prog w .any base 24 v0) (o1 : Value.okWide Try.prog w .any base 26 v1) :
    Calls Try.prog 3 #[v0, v1] w fun e w' => e = .returned (.bool true) ∧ Below w.heap.size w w' := by
  obtain ⟨t0, t1, t2, t3, t4, q0, q1, q2, q3, q4, rfl, _⟩ := open24 o0
  obtain ⟨p0, p1, p2, p3, rfl, b0, b1, b2, b3⟩ := open26 o1
  exact walk_cells t0 t1 t2 t3 t4 q0 q1 q2 q3 q4 p0 p1 p2 p3 w b0 b1 b2 b3

/-! ### THE ROW's STEP -/
set_option maxRecDepth 100000 in
theorem lifted (os : Os) (started : os.Started) (H : Type) (enc : TypeId × Value → H) :
    ReturnsInHanded {} Try.checked os 3 .any (Rows.fnPriceDoublingTokensDoublesEveryCostSpec.pre6 enc Try.prog Try.f3 Rows.fnPriceDoublingTokensDoublesEveryCostRow.domain false) (Rows.fnPriceDoublingTokensDoublesEveryCostSpec.post enc Try.prog Try.f3 false true false false) := by
  refine returnsInHanded_of_change (C := Try.checked) own started (by kernel_rfl) Try.func3
    (ChangeSpec.witness6 (enc := enc) (C := Try.checked) false ⟨#[], #[.agg #[.int .i64 0, .int .i64 0, .int .i64 0, .int .i64 0, .int .i64 0, .float .f64 0, .float .f64 0, .float .f64 0, .float .f64 0, .float .f64 0], .agg #[.float .f64 0, .float .f64 0, .float .f64 0, .float .f64 0]], []⟩ 8 (by kernel_rfl) (by kernel_rfl) (by kernel_rfl) (by kernel_rfl)) ?_
  intro W base args ds gs before hval0 hW hcnd _
  have hval : ∀ (j : Nat) t v, Try.f3.params[j]? = some t → args[j]? = some v → Value.okWide Try.prog W .any base t v := hval0
  have hW' := hW
  obtain ⟨p, q, hA0, hV, rfl, hfz, hnd⟩ := hW
  have hA : DataW.TrodAll enc Try.prog W 0 (fun _ => true) true Try.f3.params.toList args.toList ds p := hA0
  rw [Try.params3] at hA hval
  obtain ⟨v0, vs0, d0, ds0, p0, q0, hargs, rfl, rfl, h0, r0⟩ := trodAll_cons hA
  obtain ⟨v1, vs1, d1, ds1, p1, q1, rfl, rfl, rfl, h1, r1⟩ := trodAll_cons r0
  obtain ⟨rfl, rfl, rfl⟩ := trodAll_nil r1
  obtain rfl : args = #[v0, v1] := by cases args; simp_all
  obtain ⟨rfl, rfl⟩ := trodVars_none hV
  have lt0 : ∀ x ∈ p0, x.block < W.heap.size := by obtain ⟨m, hm⟩ := h0; exact DataW.trod_lt m _ _ _ hm
  have o0 := hval 0 24 v0 rfl rfl
  have lt1 : ∀ x ∈ p1, x.block < W.heap.size := by obtain ⟨m, hm⟩ := h1; exact DataW.trod_lt m _ _ _ hm
  have o1 := hval 1 26 v1 rfl rfl
  clear hA0 hval0
  refine (walk v0 v1 W base o0 o1).mono fun e W' ⟨he, bel⟩ => ?_
  subst he
  exact ⟨_, rfl, _, _, _, [], _, [], hW', trodAll_mk1 (shut_bool Try.underlying4 _), (trodAll_cons_mk (Below.trod laidOut (by kernel_rfl) (of_decide_eq_true (by kernel_rfl)) h0 bel lt0) (trodAll_cons_mk (Below.trod laidOut (by kernel_rfl) (of_decide_eq_true (by kernel_rfl)) h1 bel lt1) trodAll_mk0)), rfl, bel.frame _, fun h => by cases h⟩

theorem over : Rows.fnPriceDoublingTokensDoublesEveryCostRow.holds Try.pinned (OpenSpec.ofChange Rows.fnPriceDoublingTokensDoublesEveryCostSpec) :=
  OpenClaim.holds_of_wide 3 Try.f3 rfl rfl rfl rfl rfl rfl rfl ⟨rfl, rfl, rfl, rfl, rfl⟩ rfl rfl rfl rfl rfl (by kernel_rfl) Try.func3 (by kernel_rfl)
    (of_decide_eq_true (by kernel_rfl)) (by unfold Func.isWrapper; first | (rw [if_pos (by decide +kernel)]; kernel_rfl) | (rw [if_neg (by decide +kernel)]; exact ⟨rfl, rfl⟩))
    (fun os started H enc _ => lifted os started H enc)

/-- THE STATEMENT -/
theorem proved : Rows.FnPriceDoublingTokensDoublesEveryCostSaid := over
end Go.Proofs.Qxb6628154a.fnPriceDoublingTokensDoublesEveryCost
namespace Go.Proofs.Qxb6628154a
theorem fnPriceDoublingTokensDoublesEveryCost_stands : Rows.FnPriceDoublingTokensDoublesEveryCostSaid := fnPriceDoublingTokensDoublesEveryCost.proved
end Go.Proofs.Qxb6628154a
