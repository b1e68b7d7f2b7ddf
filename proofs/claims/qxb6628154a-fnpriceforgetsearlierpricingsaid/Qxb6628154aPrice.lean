import Derived.Test.Qxb6628154aRows
import Derived.Test.Qxb6628154aFloat3
import Derived.WalkKit
import Derived.ProofKit
import Derived.OpenShut
import Derived.Below
import Derived.WalkSpells
import Derived.WalkLawsBesides
import Derived.Outline
import Derived.Deep.QuietTactic
import Derived.BigQuiet
import Derived.Laws.FloatArith
import Derived.Deep.Light
import Derived.BigRegion
import Derived.Deep.RegionHeld3
import Derived.Deep.DeepCutAuto
import Derived.Test.Qxb6628154aWalks1
namespace Go.Proofs.Qxb6628154a.Fl
open Go.ChangeShapes Go.WideShapes Go.ChangeAt Go.RowKit
attribute [local go_sem] run_store_float

/-- Behind w: the block B holds cs, the box of the prices ps; every other block of w is as it was. -/
structure St (w wx : World) (B : Nat) (cs ps : Array Value) : Prop where
  os : wx.os = w.os
  tape : wx.tape = w.tape
  output : wx.output = w.output
  size : w.heap.size < wx.heap.size
  lt : B < w.heap.size
  at_ : wx.heap[B]? = some (.cells cs 32 (0, 0))
  box : wx.heap[w.heap.size]? = some (.cells ps 36 (0, 0))
  block : ∀ k, k < w.heap.size → k ≠ B → wx.heap[k]? = w.heap[k]?

theorem St.drew {w wx : World} {B : Nat} {cs ps : Array Value} (h : St w wx B cs ps) : St w wx.drew B cs ps := ⟨h.os, h.tape, h.output, h.size, h.lt, h.at_, h.box, h.block⟩
theorem St.drewN {w wx : World} {B : Nat} {cs ps : Array Value} (h : St w wx B cs ps) (n : Nat) : St w (wx.drewN n) B cs ps := ⟨h.os, h.tape, h.output, h.size, h.lt, h.at_, h.box, h.block⟩
theorem St.set {w wx : World} {B : Nat} {cs ps : Array Value} (h : St w wx B cs ps) (k : Nat) (v : Value) (cs' : Array Value) (e : cs.setIfInBounds k v = cs') : St w (wx.setCell ⟨B, k, none⟩ v) B cs' ps := by
  subst e
  refine ⟨h.os, h.tape, h.output, by simpa using h.size, h.lt, heap_setCell_same wx B k cs 32 v h.at_, ?_, fun j hj hne => ?_⟩
  · rw [heap_setCell_other wx ⟨B, k, none⟩ w.heap.size v (by have := h.lt; simp; omega)]; exact h.box
  · rw [heap_setCell_other wx ⟨B, k, none⟩ j v hne]; exact h.block j hj hne
theorem St.new {w : World} {B : Nat} {cs : Array Value} (ps : Array Value) (hb : w.heap[B]? = some (.cells cs 32 (0, 0))) : St w (w.alloc (.cells ps 36)) B cs ps := by
  have hB : B < w.heap.size := (Array.getElem?_eq_some_iff.1 hb).1
  exact ⟨rfl, rfl, rfl, by simp, hB, by rw [Below.heap_alloc w _ B hB]; exact hb, heap_alloc_new w _, fun k hk _ => Below.heap_alloc w _ k hk⟩
theorem St.first {w : World} {B : Nat} {cs : Array Value} (ps : Array Value) (hb : w.heap[B]? = some (.cells cs 32 (0, 0))) (k : Nat) (v : Value) (cs' : Array Value) (e : cs.setIfInBounds k v = cs') :
    St w ((w.setCell ⟨B, k, none⟩ v).alloc (.cells ps 36)) B cs' ps := by
  have hB : B < w.heap.size := (Array.getElem?_eq_some_iff.1 hb).1
  have hs : (w.setCell ⟨B, k, none⟩ v).heap.size = w.heap.size := by simp
  subst e
  refine ⟨rfl, rfl, rfl, by simp, hB, ?_, ?_, fun j hj hne => ?_⟩
  · rw [Below.heap_alloc _ _ B (by rw [hs]; exact hB)]; exact heap_setCell_same w B k cs 32 v hb
  · have := heap_alloc_new (w.setCell ⟨B, k, none⟩ v) (.cells ps 36)
    rw [hs] at this
    exact this
  · rw [Below.heap_alloc _ _ j (by rw [hs]; exact hj)]; exact heap_setCell_other w ⟨B, k, none⟩ j v hne

def uCells (t0 t1 t2 t3 t4 : Int) (q0 q1 q2 q3 q4 : Nat) : Array Value := #[.int .i64 t0, .int .i64 t1, .int .i64 t2, .int .i64 t3, .int .i64 t4, .float .f64 q0, .float .f64 q1, .float .f64 q2, .float .f64 q3, .float .f64 q4]
def pCells (p0 p1 p2 p3 : Nat) : Array Value := #[.float .f64 p0, .float .f64 p1, .float .f64 p2, .float .f64 p3]

theorem set4 (t0 t1 t2 t3 t4 t : Int) (q0 q1 q2 q3 q4 : Nat) : (uCells t0 t1 t2 t3 t4 q0 q1 q2 q3 q4).setIfInBounds 4 (.int .i64 t) = uCells t0 t1 t2 t3 t q0 q1 q2 q3 q4 := by simp [uCells]
theorem set5 (t0 t1 t2 t3 t4 : Int) (q0 q1 q2 q3 q4 q : Nat) : (uCells t0 t1 t2 t3 t4 q0 q1 q2 q3 q4).setIfInBounds 5 (.float .f64 q) = uCells t0 t1 t2 t3 t4 q q1 q2 q3 q4 := by simp [uCells]
theorem set6 (t0 t1 t2 t3 t4 : Int) (q0 q1 q2 q3 q4 q : Nat) : (uCells t0 t1 t2 t3 t4 q0 q1 q2 q3 q4).setIfInBounds 6 (.float .f64 q) = uCells t0 t1 t2 t3 t4 q0 q q2 q3 q4 := by simp [uCells]
theorem set7 (t0 t1 t2 t3 t4 : Int) (q0 q1 q2 q3 q4 q : Nat) : (uCells t0 t1 t2 t3 t4 q0 q1 q2 q3 q4).setIfInBounds 7 (.float .f64 q) = uCells t0 t1 t2 t3 t4 q0 q1 q q3 q4 := by simp [uCells]
theorem set8 (t0 t1 t2 t3 t4 : Int) (q0 q1 q2 q3 q4 q : Nat) : (uCells t0 t1 t2 t3 t4 q0 q1 q2 q3 q4).setIfInBounds 8 (.float .f64 q) = uCells t0 t1 t2 t3 t4 q0 q1 q2 q q4 := by simp [uCells]
theorem set9 (t0 t1 t2 t3 t4 : Int) (q0 q1 q2 q3 q4 q : Nat) : (uCells t0 t1 t2 t3 t4 q0 q1 q2 q3 q4).setIfInBounds 9 (.float .f64 q) = uCells t0 t1 t2 t3 t4 q0 q1 q2 q3 q := by simp [uCells]

theorem St.cell {w wx : World} {B : Nat} {cs ps : Array Value} (h : St w wx B cs ps) (k : Nat) (v : Value) (e : cs[k]? = some v) : wx.cell? ⟨B, k, none⟩ = some v := by
  rw [cell_of_row wx B k _ _ _ h.at_]; exact e
theorem St.price {w wx : World} {B : Nat} {cs ps : Array Value} (h : St w wx B cs ps) (k : Nat) (v : Value) (e : ps[k]? = some v) : wx.cell? ⟨w.heap.size, k, none⟩ = some v := by
  rw [cell_of_row wx _ k _ _ _ h.box]; exact e
theorem St.frozen {w wx : World} {B : Nat} {cs ps : Array Value} (h : St w wx B cs ps) (k : Nat) : wx.frozen? ⟨B, k, none⟩ = false := frozen_of_row wx B k _ _ h.at_

theorem far5 {W : World} {B : Nat} {a : Addr} (v5 v6 v7 v8 v9 : Value) (h : ∀ k, 5 ≤ k → (⟨B, k, none⟩ : Addr) ≠ a) :
    (((((W.setCell ⟨B, 5, none⟩ v5).setCell ⟨B, 6, none⟩ v6).setCell ⟨B, 7, none⟩ v7).setCell ⟨B, 8, none⟩ v8).setCell ⟨B, 9, none⟩ v9).drew.cell? a = W.cell? a := by
  rw [World.cell?_drew, World.cell?_setCell_other (h := h 9 (by omega)), World.cell?_setCell_other (h := h 8 (by omega)), World.cell?_setCell_other (h := h 7 (by omega)), World.cell?_setCell_other (h := h 6 (by omega)), World.cell?_setCell_other (h := h 5 (by omega))]

set_option maxRecDepth 20000 in
set_option maxHeartbeats 1000000 in
theorem priced_ok (B : Nat) (t0 t1 t2 t3 t4 : Int) (q0 q1 q2 q3 q4 p0 p1 p2 p3 : Nat) (w : World)
    (x0 x1 x2 x3 y z tt : Nat)
    (H0 : Hid (∀ w, Calls Try.prog 12 #[.int .i64 t0, .float .f64 p0] w fun e w' => e = .returned (.float .f64 x0) ∧ w = w'))
    (H1 : Hid (∀ w, Calls Try.prog 12 #[.int .i64 t1, .float .f64 p1] w fun e w' => e = .returned (.float .f64 x1) ∧ w = w'))
    (H2 : Hid (∀ w, Calls Try.prog 12 #[.int .i64 t2, .float .f64 p2] w fun e w' => e = .returned (.float .f64 x2) ∧ w = w'))
    (H3 : Hid (∀ w, Calls Try.prog 12 #[.int .i64 t3, .float .f64 p3] w fun e w' => e = .returned (.float .f64 x3) ∧ w = w'))
    (A1 : Ieee.double.add x0 x1 = some y) (A2 : Ieee.double.add y x2 = some z) (A3 : Ieee.double.add z x3 = some tt)
    (hb : w.heap[B]? = some (.cells (uCells t0 t1 t2 t3 t4 q0 q1 q2 q3 q4) 32 (0, 0))) :
    Calls Try.prog 8 #[.pointer (some ⟨B, 0, none⟩), .agg #[.float .f64 p0, .float .f64 p1, .float .f64 p2, .float .f64 p3]] w fun e w' => e = .returned (.tuple #[]) ∧
      St w w' B (uCells t0 t1 t2 t3 (wrap64 (wrap64 (wrap64 (t0 + t1) + t2) + t3)) x0 x1 x2 x3 tt) (pCells p0 p1 p2 p3) := by
  have hB : B < w.heap.size := (Array.getElem?_eq_some_iff.1 hb).1
  have k0 : w.cell? ⟨B, 0, none⟩ = some (.int .i64 t0) := by rw [cell_of_row w B 0 _ _ _ hb]; rfl
  have k1 : w.cell? ⟨B, 1, none⟩ = some (.int .i64 t1) := by rw [cell_of_row w B 1 _ _ _ hb]; rfl
  have k2 : w.cell? ⟨B, 2, none⟩ = some (.int .i64 t2) := by rw [cell_of_row w B 2 _ _ _ hb]; rfl
  have k3 : w.cell? ⟨B, 3, none⟩ = some (.int .i64 t3) := by rw [cell_of_row w B 3 _ _ _ hb]; rfl
  have k4 : w.cell? ⟨B, 4, none⟩ = some (.int .i64 t4) := by rw [cell_of_row w B 4 _ _ _ hb]; rfl
  have f4 : w.frozen? ⟨B, 4, none⟩ = false := frozen_of_row w B 4 _ _ hb
  have HA1 := hid A1
  have HA2 := hid A2
  have HA3 := hid A3
  have HB := hid hb
  clear hb A1 A2 A3
  go_enter Try.func8, Try.ntmps8
  go_upto_region 1 with fail
  go_cut [] (fun wx => Hid (St w wx B (uCells t0 t1 t2 t3 (wrap64 (wrap64 (wrap64 (t0 + t1) + t2) + t3)) q0 q1 q2 q3 q4) (pCells p0 p1 p2 p3)))
  case first =>
    go_region
    go_wp2_with fail
    go_meet
    exact (St.first (pCells p0 p1 p2 p3) HB.out 4 _ _ (set4 _ _ _ _ _ _ _ _ _ _ _)).drew
  case rest =>
  clear k0 k1 k2 k3 k4 f4
  have k0 : wc.cell? ⟨B, 0, none⟩ = some (.int .i64 t0) := hcut.out.cell 0 _ rfl
  have k1 : wc.cell? ⟨B, 1, none⟩ = some (.int .i64 t1) := hcut.out.cell 1 _ rfl
  have k2 : wc.cell? ⟨B, 2, none⟩ = some (.int .i64 t2) := hcut.out.cell 2 _ rfl
  have k3 : wc.cell? ⟨B, 3, none⟩ = some (.int .i64 t3) := hcut.out.cell 3 _ rfl
  have m0 : wc.cell? ⟨w.heap.size, 0, none⟩ = some (.float .f64 p0) := hcut.out.price 0 _ rfl
  have m1 : wc.cell? ⟨w.heap.size, 1, none⟩ = some (.float .f64 p1) := hcut.out.price 1 _ rfl
  have m2 : wc.cell? ⟨w.heap.size, 2, none⟩ = some (.float .f64 p2) := hcut.out.price 2 _ rfl
  have m3 : wc.cell? ⟨w.heap.size, 3, none⟩ = some (.float .f64 p3) := hcut.out.price 3 _ rfl
  have k5 : wc.cell? ⟨B, 5, none⟩ = some (.float .f64 q0) := hcut.out.cell 5 _ rfl
  have k6 : wc.cell? ⟨B, 6, none⟩ = some (.float .f64 q1) := hcut.out.cell 6 _ rfl
  have k7 : wc.cell? ⟨B, 7, none⟩ = some (.float .f64 q2) := hcut.out.cell 7 _ rfl
  have k8 : wc.cell? ⟨B, 8, none⟩ = some (.float .f64 q3) := hcut.out.cell 8 _ rfl
  have k9 : wc.cell? ⟨B, 9, none⟩ = some (.float .f64 q4) := hcut.out.cell 9 _ rfl
  have f5 := hcut.out.frozen 5
  have f6 := hcut.out.frozen 6
  have f7 := hcut.out.frozen 7
  have f8 := hcut.out.frozen 8
  have f9 := hcut.out.frozen 9
  have KEEP : Hid (∀ v5 v6 v7 v8 v9 : Value, (((((wc.setCell ⟨B, 5, none⟩ v5).setCell ⟨B, 6, none⟩ v6).setCell ⟨B, 7, none⟩ v7).setCell ⟨B, 8, none⟩ v8).setCell ⟨B, 9, none⟩ v9).drew.cell? ⟨B, 0, none⟩ = some (.int .i64 t0) ∧ (((((wc.setCell ⟨B, 5, none⟩ v5).setCell ⟨B, 6, none⟩ v6).setCell ⟨B, 7, none⟩ v7).setCell ⟨B, 8, none⟩ v8).setCell ⟨B, 9, none⟩ v9).drew.cell? ⟨B, 1, none⟩ = some (.int .i64 t1) ∧ (((((wc.setCell ⟨B, 5, none⟩ v5).setCell ⟨B, 6, none⟩ v6).setCell ⟨B, 7, none⟩ v7).setCell ⟨B, 8, none⟩ v8).setCell ⟨B, 9, none⟩ v9).drew.cell? ⟨B, 2, none⟩ = some (.int .i64 t2) ∧ (((((wc.setCell ⟨B, 5, none⟩ v5).setCell ⟨B, 6, none⟩ v6).setCell ⟨B, 7, none⟩ v7).setCell ⟨B, 8, none⟩ v8).setCell ⟨B, 9, none⟩ v9).drew.cell? ⟨B, 3, none⟩ = some (.int .i64 t3) ∧ (((((wc.setCell ⟨B, 5, none⟩ v5).setCell ⟨B, 6, none⟩ v6).setCell ⟨B, 7, none⟩ v7).setCell ⟨B, 8, none⟩ v8).setCell ⟨B, 9, none⟩ v9).drew.cell? ⟨w.heap.size, 0, none⟩ = some (.float .f64 p0) ∧ (((((wc.setCell ⟨B, 5, none⟩ v5).setCell ⟨B, 6, none⟩ v6).setCell ⟨B, 7, none⟩ v7).setCell ⟨B, 8, none⟩ v8).setCell ⟨B, 9, none⟩ v9).drew.cell? ⟨w.heap.size, 1, none⟩ = some (.float .f64 p1) ∧ (((((wc.setCell ⟨B, 5, none⟩ v5).setCell ⟨B, 6, none⟩ v6).setCell ⟨B, 7, none⟩ v7).setCell ⟨B, 8, none⟩ v8).setCell ⟨B, 9, none⟩ v9).drew.cell? ⟨w.heap.size, 2, none⟩ = some (.float .f64 p2) ∧ (((((wc.setCell ⟨B, 5, none⟩ v5).setCell ⟨B, 6, none⟩ v6).setCell ⟨B, 7, none⟩ v7).setCell ⟨B, 8, none⟩ v8).setCell ⟨B, 9, none⟩ v9).drew.cell? ⟨w.heap.size, 3, none⟩ = some (.float .f64 p3)) := fun v5 v6 v7 v8 v9 =>
    ⟨(far5 _ _ _ _ _ (fun k hk e => by have e1 := congrArg Addr.block e; have e2 := congrArg Addr.off e; simp only [] at e1 e2; omega)).trans k0, (far5 _ _ _ _ _ (fun k hk e => by have e1 := congrArg Addr.block e; have e2 := congrArg Addr.off e; simp only [] at e1 e2; omega)).trans k1, (far5 _ _ _ _ _ (fun k hk e => by have e1 := congrArg Addr.block e; have e2 := congrArg Addr.off e; simp only [] at e1 e2; omega)).trans k2, (far5 _ _ _ _ _ (fun k hk e => by have e1 := congrArg Addr.block e; have e2 := congrArg Addr.off e; simp only [] at e1 e2; omega)).trans k3,
     (far5 _ _ _ _ _ (fun k hk e => by have e1 := congrArg Addr.block e; have e2 := congrArg Addr.off e; simp only [] at e1 e2; omega)).trans m0, (far5 _ _ _ _ _ (fun k hk e => by have e1 := congrArg Addr.block e; have e2 := congrArg Addr.off e; simp only [] at e1 e2; omega)).trans m1, (far5 _ _ _ _ _ (fun k hk e => by have e1 := congrArg Addr.block e; have e2 := congrArg Addr.off e; simp only [] at e1 e2; omega)).trans m2, (far5 _ _ _ _ _ (fun k hk e => by have e1 := congrArg Addr.block e; have e2 := congrArg Addr.off e; simp only [] at e1 e2; omega)).trans m3⟩
  go_upto_region 2 with fail
  go_cut [] (fun wx => Hid (St w wx B (uCells t0 t1 t2 t3 (wrap64 (wrap64 (wrap64 (t0 + t1) + t2) + t3)) x0 x1 x2 x3 0) (pCells p0 p1 p2 p3)))
  case first =>
    go_region_held3 (fun w' => w'.cell? ⟨B, 0, none⟩ = some (.int .i64 t0) ∧ w'.cell? ⟨B, 1, none⟩ = some (.int .i64 t1) ∧ w'.cell? ⟨B, 2, none⟩ = some (.int .i64 t2) ∧ w'.cell? ⟨B, 3, none⟩ = some (.int .i64 t3) ∧ w'.cell? ⟨w.heap.size, 0, none⟩ = some (.float .f64 p0) ∧ w'.cell? ⟨w.heap.size, 1, none⟩ = some (.float .f64 p1) ∧ w'.cell? ⟨w.heap.size, 2, none⟩ = some (.float .f64 p2) ∧ w'.cell? ⟨w.heap.size, 3, none⟩ = some (.float .f64 p3)) (first | with_reducible exact KEEP.out _ _ _ _ _ | go_keep)
      (first | (go_at_call_of 12 (Value.float .f64 p0); refine (H0.out _).mono ?_; rintro e w' ⟨rfl, rfl⟩) | (go_at_call_of 12 (Value.float .f64 p1); refine (H1.out _).mono ?_; rintro e w' ⟨rfl, rfl⟩) | (go_at_call_of 12 (Value.float .f64 p2); refine (H2.out _).mono ?_; rintro e w' ⟨rfl, rfl⟩) | (go_at_call_of 12 (Value.float .f64 p3); refine (H3.out _).mono ?_; rintro e w' ⟨rfl, rfl⟩))
    go_wp2_with fail
    go_meet
    exact ((((((hcut.out).set 5 _ _ (set5 _ _ _ _ _ _ _ _ _ _ _)).set 6 _ _ (set6 _ _ _ _ _ _ _ _ _ _ _)).set 7 _ _ (set7 _ _ _ _ _ _ _ _ _ _ _)).set 8 _ _ (set8 _ _ _ _ _ _ _ _ _ _ _)).set 9 _ _ (set9 _ _ _ _ _ _ _ _ _ _ _)).drew
  case rest =>
  clear k0 k1 k2 k3 m0 m1 m2 m3 k5 k6 k7 k8 k9 f5 f6 f7 f8 f9 KEEP H0 H1 H2 H3 HB
  have k5 : wc.cell? ⟨B, 5, none⟩ = some (.float .f64 x0) := hcut.out.cell 5 _ rfl
  have k6 : wc.cell? ⟨B, 6, none⟩ = some (.float .f64 x1) := hcut.out.cell 6 _ rfl
  have k7 : wc.cell? ⟨B, 7, none⟩ = some (.float .f64 x2) := hcut.out.cell 7 _ rfl
  have k8 : wc.cell? ⟨B, 8, none⟩ = some (.float .f64 x3) := hcut.out.cell 8 _ rfl
  have k9 : wc.cell? ⟨B, 9, none⟩ = some (.float .f64 0) := hcut.out.cell 9 _ rfl
  have f9 := hcut.out.frozen 9
  have r1 := fun (w : World) (t' : TypeId) => run_float_arith (P := Try.prog) w .add t' .f64 x0 x1 y HA1.out
  have r2 := fun (w : World) (t' : TypeId) => run_float_arith (P := Try.prog) w .add t' .f64 y x2 z HA2.out
  have r3 := fun (w : World) (t' : TypeId) => run_float_arith (P := Try.prog) w .add t' .f64 z x3 tt HA3.out
  go_upto_region 3 with fail
  go_region
  go_wp2
  go_end0
  exact ⟨rfl, (hcut.out.set 9 _ _ (set9 _ _ _ _ _ _ _ _ _ _ _)).drew⟩

end Go.Proofs.Qxb6628154a.Fl
