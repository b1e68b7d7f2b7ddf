/-
  THE PROOF OF 'Rows.FnSinceUndoesAddingSaid': the frame (after the guide's own for slices: every argument is read again through 'Below.trod'), the arguments being arrays by value; the walk out of the Law texts.
-/
import Derived.Test.Qxb6628206aRows
import Derived.WalkKit
import Derived.ProofKit
import Derived.OpenShut
import Derived.ShutString
import Derived.ChangeOld
import Derived.Below
import Derived.Carry
import Derived.Test.Qxb6628206aLaw1
namespace Go.Proofs.Qxb6628206a.fnSinceUndoesAdding
open Go.ChangeShapes Go.WideShapes Go.ChangeAt Go.RowKit
open Sv (sev U)
set_option linter.unusedVariables false

theorem own : ownKnob Try.prog.godebug = none := by kernel_rfl
theorem laidOut : laidOutB Try.prog = true := by kernel_rfl

/-! ### OPENING AN ARRAY THAT IS HANDED BY VALUE -/
theorem types23 : Try.prog.cellTypes Try.prog.depth 23 = some [22, 22, 22, 22, 22, 22, 22] := by kernel_rfl
theorem cells23 : Try.prog.cellsOf 23 = 7 := by kernel_rfl

theorem cell_u64 {w : World} {r : Reach} {b : Nat} {c : Value} (h : Cell.okWide Try.prog w r b 22 c) : ∃ n, c = .int .u64 n ∧ 0 ≤ n ∧ n < 18446744073709551616 := by
  simp only [Cell.okWide, Try.underlying22] at h
  cases c <;> simp_all [Cell.ok, Try.underlying22, IntKind.has, IntKind.min, IntKind.max, IntKind.signed, IntKind.bits]
  omega

theorem open23 {w : World} {r : Reach} {b : Nat} {v : Value} (h : Value.okWide Try.prog w r b 23 v) : ∃ f : Nat → Int, v = .agg (sev f) ∧ U f := by
  simp only [Value.okWide, Try.underlying23] at h
  obtain ⟨cs, rfl, hs, ts, h1, _, h3⟩ := h
  rw [types23] at h1
  obtain rfl := Option.some.inj h1
  rw [cells23] at hs
  have hc : ∀ (i : Nat) (c : Value), i < 7 → cs[i]? = some c → Cell.okWide Try.prog w r b 22 c := by
    intro i c hi hic
    obtain ⟨u, h4, h5⟩ := h3 i c hic
    match i, hi with
    | 0, _ => simp at h4; subst h4; exact h5
    | 1, _ => simp at h4; subst h4; exact h5
    | 2, _ => simp at h4; subst h4; exact h5
    | 3, _ => simp at h4; subst h4; exact h5
    | 4, _ => simp at h4; subst h4; exact h5
    | 5, _ => simp at h4; subst h4; exact h5
    | 6, _ => simp at h4; subst h4; exact h5
  obtain ⟨l⟩ := cs
  match l, hs with
  | [c0, c1, c2, c3, c4, c5, c6], _ =>
    obtain ⟨n0, rfl, b0⟩ := cell_u64 (hc 0 c0 (by omega) rfl)
    obtain ⟨n1, rfl, b1⟩ := cell_u64 (hc 1 c1 (by omega) rfl)
    obtain ⟨n2, rfl, b2⟩ := cell_u64 (hc 2 c2 (by omega) rfl)
    obtain ⟨n3, rfl, b3⟩ := cell_u64 (hc 3 c3 (by omega) rfl)
    obtain ⟨n4, rfl, b4⟩ := cell_u64 (hc 4 c4 (by omega) rfl)
    obtain ⟨n5, rfl, b5⟩ := cell_u64 (hc 5 c5 (by omega) rfl)
    obtain ⟨n6, rfl, b6⟩ := cell_u64 (hc 6 c6 (by omega) rfl)
    refine ⟨fun k => [n0, n1, n2, n3, n4, n5, n6].getD k 0, rfl, fun k hk => ?_⟩
    match k, hk with
    | 0, _ => exact b0
    | 1, _ => exact b1
    | 2, _ => exact b2
    | 3, _ => exact b3
    | 4, _ => exact b4
    | 5, _ => exact b5
    | 6, _ => exact b6

/-! ### STEP 1: THE WALK -/
theorem walk (v0 v1 : Value) (w : World) (base : Nat) (o0 : Value.okWide Try.prog w .any base 23 v0) (o1 : Value.okWide Try.prog w .any base 23 v1) :
    Calls Try.prog 3 #[v0, v1] w fun e w' => e = .returned (.bool true) ∧ Below w.heap.size w w' := by
  obtain ⟨a, rfl, ha⟩ := open23 o0
  obtain ⟨b, rfl, hb⟩ := open23 o1
  exact Sv.law1 a b ha w

/-! ### THE ROW's STEP -/
set_option maxRecDepth 100000 in
theorem lifted (os : Os) (started : os.Started) (H : Type) (enc : TypeId × Value → H) :
    ReturnsInHanded {} Try.checked os 3 .any (Rows.fnSinceUndoesAddingSpec.pre6 enc Try.prog Try.f3 Rows.fnSinceUndoesAddingRow.domain false) (Rows.fnSinceUndoesAddingSpec.post enc Try.prog Try.f3 false true false false) := by
  refine returnsInHanded_of_change (C := Try.checked) own started (by kernel_rfl) Try.func3
    (ChangeSpec.witness6 (enc := enc) (C := Try.checked) false ⟨#[], #[.agg #[.int .u64 0, .int .u64 0, .int .u64 0, .int .u64 0, .int .u64 0, .int .u64 0, .int .u64 0], .agg #[.int .u64 0, .int .u64 0, .int .u64 0, .int .u64 0, .int .u64 0, .int .u64 0, .int .u64 0]], []⟩ 8 (by kernel_rfl) (by kernel_rfl) (by kernel_rfl) (by kernel_rfl)) ?_
  intro W base args ds gs before hval0 hW hcnd _
  have hval : ∀ (j : Nat) t v, Try.f3.params[j]? = some t → args[j]? = some v → Value.okWide Try.prog W .any base t v := hval0
  have hW' := hW
  obtain ⟨p, q, hA0, hV, rfl, hfz, hnd⟩ := hW
  have hA : DataW.TrodAll enc Try.prog W 0 (fun _ => true) true Try.f3.params.toList args.toList ds p := hA0
  rw [Try.params3] at hA hval
  obtain ⟨v0, vs0, d0, ds0, p0, q0, hargs, rfl, rfl, h0, r0⟩ := trodAll_cons hA
  obtain ⟨v1, vs1, d1, ds1, p1, q1, rfl, rfl, rfl, h1, r1⟩ := trodAll_cons r0
  obtain ⟨rfl, rfl, rfl⟩ := trodAll_nil r1
  obtain rfl : args = #[v0, v1] := by cases args; simp_all
  obtain ⟨rfl, rfl⟩ := trodVars_none hV
  have lt0 : ∀ x ∈ p0, x.block < W.heap.size := by obtain ⟨m, hm⟩ := h0; exact DataW.trod_lt m _ _ _ hm
  have o0 := hval 0 23 v0 rfl rfl
  have lt1 : ∀ x ∈ p1, x.block < W.heap.size := by obtain ⟨m, hm⟩ := h1; exact DataW.trod_lt m _ _ _ hm
  have o1 := hval 1 23 v1 rfl rfl
  clear hA0 hval0
  refine (walk v0 v1 W base o0 o1).mono fun e W' ⟨he, bel⟩ => ?_
  subst he
  exact ⟨_, rfl, _, _, _, [], _, [], hW', trodAll_mk1 (shut_bool Try.underlying4 _), (trodAll_cons_mk (Below.trod laidOut (by kernel_rfl) (of_decide_eq_true (by kernel_rfl)) h0 bel lt0) (trodAll_cons_mk (Below.trod laidOut (by kernel_rfl) (of_decide_eq_true (by kernel_rfl)) h1 bel lt1) trodAll_mk0)), rfl, bel.frame _, fun h => by cases h⟩

theorem over : Rows.fnSinceUndoesAddingRow.holds Try.pinned (OpenSpec.ofChange Rows.fnSinceUndoesAddingSpec) :=
  OpenClaim.holds_of_wide 3 Try.f3 rfl rfl rfl rfl rfl rfl rfl ⟨rfl, rfl, rfl, rfl, rfl⟩ rfl rfl rfl rfl rfl (by kernel_rfl) Try.func3 (by kernel_rfl)
    (of_decide_eq_true (by kernel_rfl)) (by unfold Func.isWrapper; first | (rw [if_pos (by decide +kernel)]; kernel_rfl) | (rw [if_neg (by decide +kernel)]; exact ⟨rfl, rfl⟩))
    (fun os started H enc _ => lifted os started H enc)

/-- THE STATEMENT -/
theorem proved : Rows.FnSinceUndoesAddingSaid := over
end Go.Proofs.Qxb6628206a.fnSinceUndoesAdding
namespace Go.Proofs.Qxb6628206a
theorem fnSinceUndoesAdding_stands : Rows.FnSinceUndoesAddingSaid := fnSinceUndoesAdding.proved
end Go.Proofs.Qxb6628206a
