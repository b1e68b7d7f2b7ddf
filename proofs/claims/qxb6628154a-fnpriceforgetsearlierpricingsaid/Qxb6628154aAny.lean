/-
  FLOATS OF WHATEVER BITS, FOR THE SEAT b6628154a: an operation that has no answer gives A NaN, its bits left open (the model asks the tape). What two runs of one reckoning have in common: the same bits, or a NaN each.
-/
import Derived.WalkKit
import Derived.Laws.FloatArith
import Derived.Deep.Draws
import Derived.Test.Qxb6628154aFloat3
namespace Go.Proofs.Qxb6628154a.Fl
open Ieee

/-- The bits are a NaN's. -/
def NaN (x : Nat) : Prop := ∃ s f, double.read x = .nan s f

/-- r is what the operation o gives: its answer, or, where it has none, a NaN. -/
def Res (o : Option Nat) (r : Nat) : Prop := o = some r ∨ (o = none ∧ NaN r)

/-- Alike: the same bits, or a NaN each. -/
def Sim (x y : Nat) : Prop := x = y ∨ (NaN x ∧ NaN y)

theorem Res.sim {o : Option Nat} {x y : Nat} (hx : Res o x) (hy : Res o y) : Sim x y := by
  rcases hx with hx | ⟨hx, nx⟩ <;> rcases hy with hy | ⟨hy, ny⟩
  · rw [hx] at hy; exact .inl (Option.some.inj hy)
  · rw [hx] at hy; cases hy
  · rw [hx] at hy; cases hy
  · exact .inr ⟨nx, ny⟩

theorem add_nan_left {x y : Nat} (h : NaN x) : double.add x y = none := by
  obtain ⟨s, f, h⟩ := h
  unfold Format.add; rw [h]; rfl
theorem add_nan_right {x y : Nat} (h : NaN y) : double.add x y = none := by
  obtain ⟨s, f, h⟩ := h
  unfold Format.add; rw [h]; cases double.read x <;> rfl
theorem div_nan {x y : Nat} (h : NaN x) : double.div x y = none := by
  obtain ⟨s, f, h⟩ := h
  unfold Format.div; rw [h]; rfl

theorem Sim.add {u u' v v' r r' : Nat} (hu : Sim u u') (hv : Sim v v') (h : Res (double.add u v) r) (h' : Res (double.add u' v') r') : Sim r r' := by
  rcases hu with rfl | ⟨nu, nu'⟩
  · rcases hv with rfl | ⟨nv, nv'⟩
    · exact h.sim h'
    · rw [add_nan_right nv] at h; rw [add_nan_right nv'] at h'; exact h.sim h'
  · rw [add_nan_left nu] at h; rw [add_nan_left nu'] at h'; exact h.sim h'

/-- What zzSameF answers. -/
def sameB (a b : Nat) : Bool := eqB a b || (!eqB a a && !eqB b b)

theorem eqB_nan {x y : Nat} (h : NaN x) : eqB x y = false := by
  obtain ⟨s, f, h⟩ := h
  unfold eqB; rw [order_nan h]; rfl

theorem Sim.same {x y : Nat} (h : Sim x y) : sameB x y = true := by
  rcases h with rfl | ⟨nx, ny⟩
  · unfold sameB; cases eqB x x <;> rfl
  · unfold sameB; rw [eqB_nan nx, eqB_nan nx, eqB_nan ny]; rfl

/-! ### The cost of a count at a price, and the four costs added up -/
def costO (t : Int) (p : Nat) : Option Nat := (double.mul (ofInt t) p).bind fun a => double.div a million

def SumRes (x0 x1 x2 x3 r : Nat) : Prop := ∃ y z, Res (double.add x0 x1) y ∧ Res (double.add y x2) z ∧ Res (double.add z x3) r

theorem SumRes.sim {x0 x1 x2 x3 r y0 y1 y2 y3 r' : Nat} (h0 : Sim x0 y0) (h1 : Sim x1 y1) (h2 : Sim x2 y2) (h3 : Sim x3 y3) (h : SumRes x0 x1 x2 x3 r) (h' : SumRes y0 y1 y2 y3 r') : Sim r r' := by
  obtain ⟨y, z, a, b, c⟩ := h
  obtain ⟨y', z', a', b', c'⟩ := h'
  exact Sim.add (Sim.add (Sim.add h0 h1 a a') h2 b b') h3 c c'

/-! ### An operation on floats, whatever its operands: what the walk is told -/
open Go in
/-- The bits that the operation gives in the world w. -/
def FA (op : BinOp) (x y : Nat) (w : World) : Nat := (floatBits op .f64 x y).getD ((Question.nanBits .f64 x y).cut (w.tape w.drawn (.nanBits .f64 x y)))
open Go in
/-- How many answers it draws. -/
def FN (op : BinOp) (x y : Nat) : Nat := if (floatBits op .f64 x y).isSome then 0 else 1

open Go in
theorem run_float_any {P : Program} (w : World) (op : BinOp) (t : TypeId) (x y : Nat) (h : op = .add ∨ op = .mul ∨ op = .quo) :
    (binOp op t (.float .f64 x) (.float .f64 y)).run P w = .ok (.float .f64 (FA op x y w)) (w.drewN (FN op x y)) := by
  cases e : floatBits op .f64 x y with
  | some r =>
    rw [run_float_arith w op t .f64 x y r e]
    simp [FA, FN, e, World.drewN_zero]
  | none =>
    have hw : w.drewN (FN op x y) = w.drew := by simp [FN, e, World.drew_is_drewN]
    rw [hw]
    rcases h with rfl | rfl | rfl
    all_goals
      simp only [floatBits] at e
      simp [binOp, Op.floatArith, e, FA, floatBits, Question.forced]

open Go in
theorem nan_cut (t x y : Nat) : NaN ((Question.nanBits .f64 x y).cut t) := by
  have e : (Question.nanBits .f64 x y).cut t = (t % 2) * 9223372036854775808 + 9218868437227405312 + 1 + (t / 2) % 4503599627370495 := by
    simp [Question.cut]
  rw [e]
  have h : (t / 2) % 4503599627370495 < 4503599627370495 := Nat.mod_lt _ (by omega)
  generalize (t / 2) % 4503599627370495 = r at h
  have hx : ∀ s : Bool, double.read (double.word s (9218868437227405312 + 1 + r)) = .nan s (1 + r) := by
    intro s
    unfold Format.read Format.word
    simp only [lp, bin, inf, sw]
    cases s
    · simp only [Bool.false_eq_true, if_false]
      have e1 : (9218868437227405312 + 1 + r) / 9223372036854775808 % 2 = 0 := by omega
      have e2 : (9218868437227405312 + 1 + r) % 9223372036854775808 = 9218868437227405312 + 1 + r := by omega
      rw [e1, e2, if_neg (by omega), if_neg (by omega), if_neg (by omega)]
      have e3 : 9218868437227405312 + 1 + r - 9218868437227405312 = 1 + r := by omega
      rw [e3]; rfl
    · simp only [if_true]
      have e1 : (9223372036854775808 + (9218868437227405312 + 1 + r)) / 9223372036854775808 % 2 = 1 := by omega
      have e2 : (9223372036854775808 + (9218868437227405312 + 1 + r)) % 9223372036854775808 = 9218868437227405312 + 1 + r := by omega
      rw [e1, e2, if_neg (by omega), if_neg (by omega), if_neg (by omega)]
      have e3 : 9218868437227405312 + 1 + r - 9218868437227405312 = 1 + r := by omega
      rw [e3]; rfl
  rcases Nat.mod_two_eq_zero_or_one t with ht | ht
  · have := hx false
    unfold Format.word at this
    simp only [Bool.false_eq_true, if_false] at this
    refine ⟨false, 1 + r, ?_⟩
    rw [ht, Nat.zero_mul, Nat.zero_add]
    exact this
  · have := hx true
    unfold Format.word at this
    simp only [if_true, sw] at this
    refine ⟨true, 1 + r, ?_⟩
    rw [ht, Nat.one_mul]
    have e4 : 9223372036854775808 + 9218868437227405312 + 1 + r = 9223372036854775808 + (9218868437227405312 + 1 + r) := by omega
    rw [e4]
    exact this

open Go in
theorem fa_res (op : BinOp) (x y : Nat) (w : World) : Res (floatBits op .f64 x y) (FA op x y w) := by
  cases e : floatBits op .f64 x y with
  | some r => left; simp [FA, e]
  | none => right; refine ⟨rfl, ?_⟩; simp only [FA, e, Option.getD_none]; exact nan_cut _ _ _

open Go in
theorem cost_res (t : Int) (p : Nat) (w w' : World) : Res (costO t p) (FA .quo (FA .mul (ofInt t) p w) million w') := by
  have h1 : Res (double.mul (ofInt t) p) (FA .mul (ofInt t) p w) := fa_res .mul _ _ w
  have h2 : Res (double.div (FA .mul (ofInt t) p w) million) (FA .quo (FA .mul (ofInt t) p w) million w') := fa_res .quo _ _ w'
  unfold costO
  rcases h1 with h1 | ⟨h1, n1⟩
  · rw [h1]; exact h2
  · rw [h1]
    rw [div_nan n1] at h2
    exact h2

end Go.Proofs.Qxb6628154a.Fl
