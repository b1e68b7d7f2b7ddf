/-
  THE PROOF OF 'Rows.FnPriceForgetsEarlierPricingSaid': the frame (after the guide's own for slices: every argument is read again through 'Below.trod'), the arguments being structs by value; the walk out of the Law texts.
-/
import Derived.Test.Qxb6628154aRows
import Derived.WalkKit
import Derived.ProofKit
import Derived.OpenShut
import Derived.ShutString
import Derived.ChangeOld
import Derived.Below
import Derived.Carry
import Derived.Test.Qxb6628154aLaw2
namespace Go.Proofs.Qxb6628154a.fnPriceForgetsEarlierPricing
open Go.ChangeShapes Go.WideShapes Go.ChangeAt Go.RowKit
open Fl (uCells pCells)
set_option linter.unusedVariables false

theorem own : ownKnob Try.prog.godebug = none := by kernel_rfl
theorem laidOut : laidOutB Try.prog = true := by kernel_rfl

/-! ### OPENING A STRUCT THAT IS HANDED BY VALUE -/
theorem types24 : Try.prog.cellTypes Try.prog.depth 24 = some [3, 3, 3, 3, 3, 22, 22, 22, 22, 22] := by kernel_rfl
theorem types26 : Try.prog.cellTypes Try.prog.depth 26 = some [22, 22, 22, 22] := by kernel_rfl
theorem cells24 : Try.prog.cellsOf 24 = 10 := by kernel_rfl
theorem cells26 : Try.prog.cellsOf 26 = 4 := by kernel_rfl

theorem row_of {w : World} {r : Reach} {b : Nat} {t : TypeId} {v : Value} {fs : Array Field} {ts : List TypeId} {n : Nat} (hu : Try.prog.underlying t = some (.struct fs)) (hts : Try.prog.cellTypes Try.prog.depth t = some ts)
    (hc : Try.prog.cellsOf t = n) (hn : ts.length = n) (h : Value.okWide Try.prog w r b t v) :
    ∃ cs : Array Value, v = .agg cs ∧ cs.size = n ∧ ∀ (i : Nat) (c : Value) (u : TypeId), cs[i]? = some c → ts[i]? = some u → Cell.okWide Try.prog w r b u c := by
  simp only [Value.okWide, hu] at h
  obtain ⟨cs, rfl, hs, ts', h1, _, h3⟩ := h
  rw [hts] at h1
  obtain rfl := Option.some.inj h1
  refine ⟨cs, rfl, hs.trans hc, fun i c u hi hu' => ?_⟩
  obtain ⟨u', h4, h5⟩ := h3 i c hi
  have hlt : i < ts.length := (List.getElem?_eq_some_iff.1 hu').1
  rw [Nat.mod_eq_of_lt hlt, hu'] at h4
  obtain rfl := Option.some.inj h4
  exact h5

theorem cell_int {w : World} {r : Reach} {b : Nat} {c : Value} (h : Cell.okWide Try.prog w r b 3 c) : ∃ n, c = .int .i64 n ∧ -9223372036854775808 ≤ n ∧ n ≤ 9223372036854775807 := by
  simp only [Cell.okWide, Try.underlying3] at h
  cases c <;> simp_all [Cell.ok, Try.underlying3, IntKind.has, IntKind.min, IntKind.max, IntKind.signed, IntKind.bits]

theorem cell_float {w : World} {r : Reach} {b : Nat} {c : Value} (h : Cell.okWide Try.prog w r b 22 c) : ∃ n, c = .float .f64 n ∧ n < 18446744073709551616 := by
  simp only [Cell.okWide, Try.underlying22] at h
  cases c <;> simp_all [Cell.ok, Try.underlying22, FloatKind.has]

theorem open24 {w : World} {r : Reach} {b : Nat} {v : Value} (h : Value.okWide Try.prog w r b 24 v) :
    ∃ (t0 t1 t2 t3 t4 : Int) (q0 q1 q2 q3 q4 : Nat), v = .agg (uCells t0 t1 t2 t3 t4 q0 q1 q2 q3 q4) ∧ (-9223372036854775808 ≤ t0 ∧ t0 ≤ 9223372036854775807) ∧ (-9223372036854775808 ≤ t1 ∧ t1 ≤ 9223372036854775807) ∧ (-9223372036854775808 ≤ t2 ∧ t2 ≤ 9223372036854775807) ∧ (-9223372036854775808 ≤ t3 ∧ t3 ≤ 9223372036854775807) := by
  obtain ⟨cs, rfl, hs, hc⟩ := row_of Try.underlying24 types24 cells24 rfl h
  obtain ⟨l⟩ := cs
  match l, hs with
  | [c0, c1, c2, c3, c4, c5, c6, c7, c8, c9], _ =>
    obtain ⟨t0, rfl, b0⟩ := cell_int (hc 0 c0 3 rfl rfl)
    obtain ⟨t1, rfl, b1⟩ := cell_int (hc 1 c1 3 rfl rfl)
    obtain ⟨t2, rfl, b2⟩ := cell_int (hc 2 c2 3 rfl rfl)
    obtain ⟨t3, rfl, b3⟩ := cell_int (hc 3 c3 3 rfl rfl)
    obtain ⟨t4, rfl, _⟩ := cell_int (hc 4 c4 3 rfl rfl)
    obtain ⟨q0, rfl, _⟩ := cell_float (hc 5 c5 22 rfl rfl)
    obtain ⟨q1, rfl, _⟩ := cell_float (hc 6 c6 22 rfl rfl)
    obtain ⟨q2, rfl, _⟩ := cell_float (hc 7 c7 22 rfl rfl)
    obtain ⟨q3, rfl, _⟩ := cell_float (hc 8 c8 22 rfl rfl)
    obtain ⟨q4, rfl, _⟩ := cell_float (hc 9 c9 22 rfl rfl)
    exact ⟨t0, t1, t2, t3, t4, q0, q1, q2, q3, q4, rfl, b0, b1, b2, b3⟩

theorem open26 {w : World} {r : Reach} {b : Nat} {v : Value} (h : Value.okWide Try.prog w r b 26 v) :
    ∃ (p0 p1 p2 p3 : Nat), v = .agg (pCells p0 p1 p2 p3) ∧ p0 < 18446744073709551616 ∧ p1 < 18446744073709551616 ∧ p2 < 18446744073709551616 ∧ p3 < 18446744073709551616 := by
  obtain ⟨cs, rfl, hs, hc⟩ := row_of Try.underlying26 types26 cells26 rfl h
  obtain ⟨l⟩ := cs
  match l, hs with
  | [c0, c1, c2, c3], _ =>
    obtain ⟨p0, rfl, b0⟩ := cell_float (hc 0 c0 22 rfl rfl)
    obtain ⟨p1, rfl, b1⟩ := cell_float (hc 1 c1 22 rfl rfl)
    obtain ⟨p2, rfl, b2⟩ := cell_float (hc 2 c2 22 rfl rfl)
    obtain ⟨p3, rfl, b3⟩ := cell_float (hc 3 c3 22 rfl rfl)
    exact ⟨p0, p1, p2, p3, rfl, b0, b1, b2, b3⟩

/-! ### STEP 1: THE WALK -/
theorem walk (v0 v1 v2 : Value) (w : World) (base : Nat) (o0 : Value.okWide Try.prog w .any base 24 v0) (o1 : Value.okWide Try.prog w .any base 26 v1) (o2 : Value.okWide Try.prog w .any base 26 v2) :
    Calls Try.prog 4 #[v0, v1, v2] w fun e w' => e = .returned (.bool true) ∧ Below w.heap.size w w' := by
  obtain ⟨t0, t1, t2, t3, t4, f0, f1, f2, f3, f4, rfl, T0, T1, T2, T3⟩ := open24 o0
  obtain ⟨q0, q1, q2, q3, rfl, _⟩ := open26 o1
  obtain ⟨p0, p1, p2, p3, rfl, b0, b1, b2, b3⟩ := open26 o2
  exact Fl.law2_main t0 t1 t2 t3 t4 f0 f1 f2 f3 f4 q0 q1 q2 q3 p0 p1 p2 p3 w T0 T1 T2 T3 b0 b1 b2 b3

/-! ### THE ROW's STEP -/
set_option maxRecDepth 100000 in
theorem lifted (os : Os) (started : os.Started) (H : Type) (enc : TypeId × Value → H) :
    ReturnsInHanded {} Try.checked os 4 .any (Rows.fnPriceForgetsEarlierPricingSpec.pre6 enc Try.prog Try.f4 Rows.fnPriceForgetsEarlierPricingRow.domain false) (Rows.fnPriceForgetsEarlierPricingSpec.post enc Try.prog Try.f4 false true false false) := by
  refine returnsInHanded_of_change (C := Try.checked) own started (by kernel_rfl) Try.func4
    (ChangeSpec.witness6 (enc := enc) (C := Try.checked) false ⟨#[], #[.agg #[.int .i64 0, .int .i64 0, .int .i64 0, .int .i64 0, .int .i64 0, .float .f64 0, .float .f64 0, .float .f64 0, .float .f64 0, .float .f64 0], .agg #[.float .f64 0, .float .f64 0, .float .f64 0, .float .f64 0], .agg #[.float .f64 0, .float .f64 0, .float .f64 0, .float .f64 0]], []⟩ 8 (by kernel_rfl) (by kernel_rfl) (by kernel_rfl) (by kernel_rfl)) ?_
  intro W base args ds gs before hval0 hW hcnd _
  have hval : ∀ (j : Nat) t v, Try.f4.params[j]? = some t → args[j]? = some v → Value.okWide Try.prog W .any base t v := hval0
  have hW' := hW
  obtain ⟨p, q, hA0, hV, rfl, hfz, hnd⟩ := hW
  have hA : DataW.TrodAll enc Try.prog W 0 (fun _ => true) true Try.f4.params.toList args.toList ds p := hA0
  rw [Try.params4] at hA hval
  obtain ⟨v0, vs0, d0, ds0, p0, q0, hargs, rfl, rfl, h0, r0⟩ := trodAll_cons hA
  obtain ⟨v1, vs1, d1, ds1, p1, q1, rfl, rfl, rfl, h1, r1⟩ := trodAll_cons r0
  obtain ⟨v2, vs2, d2, ds2, p2, q2, rfl, rfl, rfl, h2, r2⟩ := trodAll_cons r1
  obtain ⟨rfl, rfl, rfl⟩ := trodAll_nil r2
  obtain rfl : args = #[v0, v1, v2] := by cases args; simp_all
  obtain ⟨rfl, rfl⟩ := trodVars_none hV
  have lt0 : ∀ x ∈ p0, x.block < W.heap.size := by obtain ⟨m, hm⟩ := h0; exact DataW.trod_lt m _ _ _ hm
  have o0 := hval 0 24 v0 rfl rfl
  have lt1 : ∀ x ∈ p1, x.block < W.heap.size := by obtain ⟨m, hm⟩ := h1; exact DataW.trod_lt m _ _ _ hm
  have o1 := hval 1 26 v1 rfl rfl
  have lt2 : ∀ x ∈ p2, x.block < W.heap.size := by obtain ⟨m, hm⟩ := h2; exact DataW.trod_lt m _ _ _ hm
  have o2 := hval 2 26 v2 rfl rfl
  clear hA0 hval0
  refine (walk v0 v1 v2 W base o0 o1 o2).mono fun e W' ⟨he, bel⟩ => ?_
  subst he
  exact ⟨_, rfl, _, _, _, [], _, [], hW', trodAll_mk1 (shut_bool Try.underlying4 _), (trodAll_cons_mk (Below.trod laidOut (by kernel_rfl) (of_decide_eq_true (by kernel_rfl)) h0 bel lt0) (trodAll_cons_mk (Below.trod laidOut (by kernel_rfl) (of_decide_eq_true (by kernel_rfl)) h1 bel lt1) (trodAll_cons_mk (Below.trod laidOut (by kernel_rfl) (of_decide_eq_true (by kernel_rfl)) h2 bel lt2) trodAll_mk0))), rfl, bel.frame _, fun h => by cases h⟩

theorem over : Rows.fnPriceForgetsEarlierPricingRow.holds Try.pinned (OpenSpec.ofChange Rows.fnPriceForgetsEarlierPricingSpec) :=
  OpenClaim.holds_of_wide 4 Try.f4 rfl rfl rfl rfl rfl rfl rfl ⟨rfl, rfl, rfl, rfl, rfl⟩ rfl rfl rfl rfl rfl (by kernel_rfl) Try.func4 (by kernel_rfl)
    (of_decide_eq_true (by kernel_rfl)) (by unfold Func.isWrapper; first | (rw [if_pos (by decide +kernel)]; kernel_rfl) | (rw [if_neg (by decide +kernel)]; exact ⟨rfl, rfl⟩))
    (fun os started H enc _ => lifted os started H enc)

/-- THE STATEMENT -/
theorem proved : Rows.FnPriceForgetsEarlierPricingSaid := over
end Go.Proofs.Qxb6628154a.fnPriceForgetsEarlierPricing
namespace Go.Proofs.Qxb6628154a
theorem fnPriceForgetsEarlierPricing_stands : Rows.FnPriceForgetsEarlierPricingSaid := fnPriceForgetsEarlierPricing.proved
end Go.Proofs.Qxb6628154a
