import Derived.Test.Qxb6628154aRows
import Derived.Test.Qxb6628154aFloat3
import Derived.WalkKit
import Derived.ProofKit
import Derived.OpenShut
import Derived.Below
import Derived.WalkSpells
import Derived.WalkLawsBesides
import Derived.Outline
import Derived.Deep.QuietTactic
import Derived.BigQuiet
import Derived.Laws.FloatArith
import Derived.Deep.Light
import Derived.BigRegion
import Derived.Deep.RegionHeld3
import Derived.Deep.DeepCutAuto
import Derived.Test.Qxb6628154aPrice
import Derived.Test.Qxb6628154aAny
namespace Go.Proofs.Qxb6628154a.Fl
open Go.ChangeShapes Go.WideShapes Go.ChangeAt Go.RowKit
attribute [local go_sem] run_store_float

/-! ### perMillion, whatever the price -/
theorem perm_any (t : Int) (p : Nat) (w : World) :
    Calls Try.prog 12 #[.int .i64 t, .float .f64 p] w fun e w' => ∃ (x n : Nat), e = .returned (.float .f64 x) ∧ Hid (Res (costO t p) x) ∧ w.drewN n = w' := by
  have r1 := fun (w : World) (t' : TypeId) (x y : Nat) => run_float_any (P := Try.prog) w .mul t' x y (.inr (.inl rfl))
  have r2 := fun (w : World) (t' : TypeId) (x y : Nat) => run_float_any (P := Try.prog) w .quo t' x y (.inr (.inr rfl))
  go_enter Try.func12, Try.ntmps12
  go_wp2
  go_ret
  exact ⟨_, _, rfl, cost_res t p _ _, rfl⟩

theorem far6 {W : World} {B : Nat} {a : Addr} (k : Nat) (v5 v6 v7 v8 v9 : Value) (h : ∀ k, 5 ≤ k → (⟨B, k, none⟩ : Addr) ≠ a) :
    ((((((W.drewN k).setCell ⟨B, 5, none⟩ v5).setCell ⟨B, 6, none⟩ v6).setCell ⟨B, 7, none⟩ v7).setCell ⟨B, 8, none⟩ v8).setCell ⟨B, 9, none⟩ v9).cell? a = W.cell? a := by
  rw [World.cell?_setCell_other (h := h 9 (by omega)), World.cell?_setCell_other (h := h 8 (by omega)), World.cell?_setCell_other (h := h 7 (by omega)), World.cell?_setCell_other (h := h 6 (by omega)), World.cell?_setCell_other (h := h 5 (by omega)), World.cell?_drewN]

set_option maxRecDepth 20000 in
set_option maxHeartbeats 1000000 in
theorem priced_any (B : Nat) (t0 t1 t2 t3 t4 : Int) (q0 q1 q2 q3 q4 p0 p1 p2 p3 : Nat) (w : World)
    (hb : w.heap[B]? = some (.cells (uCells t0 t1 t2 t3 t4 q0 q1 q2 q3 q4) 32 (0, 0))) :
    Calls Try.prog 8 #[.pointer (some ⟨B, 0, none⟩), .agg #[.float .f64 p0, .float .f64 p1, .float .f64 p2, .float .f64 p3]] w fun e w' => e = .returned (.tuple #[]) ∧
      ∃ x0 x1 x2 x3 tt, St w w' B (uCells t0 t1 t2 t3 (wrap64 (wrap64 (wrap64 (t0 + t1) + t2) + t3)) x0 x1 x2 x3 tt) (pCells p0 p1 p2 p3) ∧
        Res (costO t0 p0) x0 ∧ Res (costO t1 p1) x1 ∧ Res (costO t2 p2) x2 ∧ Res (costO t3 p3) x3 ∧ SumRes x0 x1 x2 x3 tt := by
  have H0 := hid (perm_any t0 p0)
  have H1 := hid (perm_any t1 p1)
  have H2 := hid (perm_any t2 p2)
  have H3 := hid (perm_any t3 p3)
  have hB : B < w.heap.size := (Array.getElem?_eq_some_iff.1 hb).1
  have k0 : w.cell? ⟨B, 0, none⟩ = some (.int .i64 t0) := by rw [cell_of_row w B 0 _ _ _ hb]; rfl
  have k1 : w.cell? ⟨B, 1, none⟩ = some (.int .i64 t1) := by rw [cell_of_row w B 1 _ _ _ hb]; rfl
  have k2 : w.cell? ⟨B, 2, none⟩ = some (.int .i64 t2) := by rw [cell_of_row w B 2 _ _ _ hb]; rfl
  have k3 : w.cell? ⟨B, 3, none⟩ = some (.int .i64 t3) := by rw [cell_of_row w B 3 _ _ _ hb]; rfl
  have k4 : w.cell? ⟨B, 4, none⟩ = some (.int .i64 t4) := by rw [cell_of_row w B 4 _ _ _ hb]; rfl
  have f4 : w.frozen? ⟨B, 4, none⟩ = false := frozen_of_row w B 4 _ _ hb
  have HB := hid hb
  clear hb
  go_enter Try.func8, Try.ntmps8
  go_upto_region 1 with fail
  go_cut [] (fun wx => Hid (St w wx B (uCells t0 t1 t2 t3 (wrap64 (wrap64 (wrap64 (t0 + t1) + t2) + t3)) q0 q1 q2 q3 q4) (pCells p0 p1 p2 p3)))
  case first =>
    go_region
    go_wp2_with fail
    go_meet
    exact (St.first (pCells p0 p1 p2 p3) HB.out 4 _ _ (set4 _ _ _ _ _ _ _ _ _ _ _)).drew
  case rest =>
  clear k0 k1 k2 k3 k4 f4
  have k0 : wc.cell? ⟨B, 0, none⟩ = some (.int .i64 t0) := hcut.out.cell 0 _ rfl
  have k1 : wc.cell? ⟨B, 1, none⟩ = some (.int .i64 t1) := hcut.out.cell 1 _ rfl
  have k2 : wc.cell? ⟨B, 2, none⟩ = some (.int .i64 t2) := hcut.out.cell 2 _ rfl
  have k3 : wc.cell? ⟨B, 3, none⟩ = some (.int .i64 t3) := hcut.out.cell 3 _ rfl
  have m0 : wc.cell? ⟨w.heap.size, 0, none⟩ = some (.float .f64 p0) := hcut.out.price 0 _ rfl
  have m1 : wc.cell? ⟨w.heap.size, 1, none⟩ = some (.float .f64 p1) := hcut.out.price 1 _ rfl
  have m2 : wc.cell? ⟨w.heap.size, 2, none⟩ = some (.float .f64 p2) := hcut.out.price 2 _ rfl
  have m3 : wc.cell? ⟨w.heap.size, 3, none⟩ = some (.float .f64 p3) := hcut.out.price 3 _ rfl
  have k5 : wc.cell? ⟨B, 5, none⟩ = some (.float .f64 q0) := hcut.out.cell 5 _ rfl
  have k6 : wc.cell? ⟨B, 6, none⟩ = some (.float .f64 q1) := hcut.out.cell 6 _ rfl
  have k7 : wc.cell? ⟨B, 7, none⟩ = some (.float .f64 q2) := hcut.out.cell 7 _ rfl
  have k8 : wc.cell? ⟨B, 8, none⟩ = some (.float .f64 q3) := hcut.out.cell 8 _ rfl
  have k9 : wc.cell? ⟨B, 9, none⟩ = some (.float .f64 q4) := hcut.out.cell 9 _ rfl
  have f5 := hcut.out.frozen 5
  have f6 := hcut.out.frozen 6
  have f7 := hcut.out.frozen 7
  have f8 := hcut.out.frozen 8
  have f9 := hcut.out.frozen 9
  have KEEP : Hid (∀ (k : Nat) (v5 v6 v7 v8 v9 : Value), ((((((wc.drewN k).setCell ⟨B, 5, none⟩ v5).setCell ⟨B, 6, none⟩ v6).setCell ⟨B, 7, none⟩ v7).setCell ⟨B, 8, none⟩ v8).setCell ⟨B, 9, none⟩ v9).cell? ⟨B, 0, none⟩ = some (.int .i64 t0) ∧ ((((((wc.drewN k).setCell ⟨B, 5, none⟩ v5).setCell ⟨B, 6, none⟩ v6).setCell ⟨B, 7, none⟩ v7).setCell ⟨B, 8, none⟩ v8).setCell ⟨B, 9, none⟩ v9).cell? ⟨B, 1, none⟩ = some (.int .i64 t1) ∧ ((((((wc.drewN k).setCell ⟨B, 5, none⟩ v5).setCell ⟨B, 6, none⟩ v6).setCell ⟨B, 7, none⟩ v7).setCell ⟨B, 8, none⟩ v8).setCell ⟨B, 9, none⟩ v9).cell? ⟨B, 2, none⟩ = some (.int .i64 t2) ∧ ((((((wc.drewN k).setCell ⟨B, 5, none⟩ v5).setCell ⟨B, 6, none⟩ v6).setCell ⟨B, 7, none⟩ v7).setCell ⟨B, 8, none⟩ v8).setCell ⟨B, 9, none⟩ v9).cell? ⟨B, 3, none⟩ = some (.int .i64 t3) ∧ ((((((wc.drewN k).setCell ⟨B, 5, none⟩ v5).setCell ⟨B, 6, none⟩ v6).setCell ⟨B, 7, none⟩ v7).setCell ⟨B, 8, none⟩ v8).setCell ⟨B, 9, none⟩ v9).cell? ⟨w.heap.size, 0, none⟩ = some (.float .f64 p0) ∧ ((((((wc.drewN k).setCell ⟨B, 5, none⟩ v5).setCell ⟨B, 6, none⟩ v6).setCell ⟨B, 7, none⟩ v7).setCell ⟨B, 8, none⟩ v8).setCell ⟨B, 9, none⟩ v9).cell? ⟨w.heap.size, 1, none⟩ = some (.float .f64 p1) ∧ ((((((wc.drewN k).setCell ⟨B, 5, none⟩ v5).setCell ⟨B, 6, none⟩ v6).setCell ⟨B, 7, none⟩ v7).setCell ⟨B, 8, none⟩ v8).setCell ⟨B, 9, none⟩ v9).cell? ⟨w.heap.size, 2, none⟩ = some (.float .f64 p2) ∧ ((((((wc.drewN k).setCell ⟨B, 5, none⟩ v5).setCell ⟨B, 6, none⟩ v6).setCell ⟨B, 7, none⟩ v7).setCell ⟨B, 8, none⟩ v8).setCell ⟨B, 9, none⟩ v9).cell? ⟨w.heap.size, 3, none⟩ = some (.float .f64 p3)) := fun k v5 v6 v7 v8 v9 =>
    ⟨(far6 _ _ _ _ _ _ (fun k hk e => by have e1 := congrArg Addr.block e; have e2 := congrArg Addr.off e; simp only [] at e1 e2; omega)).trans k0, (far6 _ _ _ _ _ _ (fun k hk e => by have e1 := congrArg Addr.block e; have e2 := congrArg Addr.off e; simp only [] at e1 e2; omega)).trans k1, (far6 _ _ _ _ _ _ (fun k hk e => by have e1 := congrArg Addr.block e; have e2 := congrArg Addr.off e; simp only [] at e1 e2; omega)).trans k2, (far6 _ _ _ _ _ _ (fun k hk e => by have e1 := congrArg Addr.block e; have e2 := congrArg Addr.off e; simp only [] at e1 e2; omega)).trans k3,
     (far6 _ _ _ _ _ _ (fun k hk e => by have e1 := congrArg Addr.block e; have e2 := congrArg Addr.off e; simp only [] at e1 e2; omega)).trans m0, (far6 _ _ _ _ _ _ (fun k hk e => by have e1 := congrArg Addr.block e; have e2 := congrArg Addr.off e; simp only [] at e1 e2; omega)).trans m1, (far6 _ _ _ _ _ _ (fun k hk e => by have e1 := congrArg Addr.block e; have e2 := congrArg Addr.off e; simp only [] at e1 e2; omega)).trans m2, (far6 _ _ _ _ _ _ (fun k hk e => by have e1 := congrArg Addr.block e; have e2 := congrArg Addr.off e; simp only [] at e1 e2; omega)).trans m3⟩
  go_upto_region 2 with fail
  go_cut [] (fun wx => ∃ x0 x1 x2 x3, Hid (St w wx B (uCells t0 t1 t2 t3 (wrap64 (wrap64 (wrap64 (t0 + t1) + t2) + t3)) x0 x1 x2 x3 0) (pCells p0 p1 p2 p3)) ∧ Hid (Res (costO t0 p0) x0) ∧ Hid (Res (costO t1 p1) x1) ∧ Hid (Res (costO t2 p2) x2) ∧ Hid (Res (costO t3 p3) x3))
  case first =>
    go_region_held3 (fun w' => w'.cell? ⟨B, 0, none⟩ = some (.int .i64 t0) ∧ w'.cell? ⟨B, 1, none⟩ = some (.int .i64 t1) ∧ w'.cell? ⟨B, 2, none⟩ = some (.int .i64 t2) ∧ w'.cell? ⟨B, 3, none⟩ = some (.int .i64 t3) ∧ w'.cell? ⟨w.heap.size, 0, none⟩ = some (.float .f64 p0) ∧ w'.cell? ⟨w.heap.size, 1, none⟩ = some (.float .f64 p1) ∧ w'.cell? ⟨w.heap.size, 2, none⟩ = some (.float .f64 p2) ∧ w'.cell? ⟨w.heap.size, 3, none⟩ = some (.float .f64 p3)) (first | with_reducible exact KEEP.out _ _ _ _ _ _ | go_keep)
      (first | (go_at_call_of 12 (Value.float .f64 p0); refine (H0.out _).mono ?_; rintro e w' ⟨x0, n0, rfl, hx0, rfl⟩) | (go_at_call_of 12 (Value.float .f64 p1); refine (H1.out _).mono ?_; rintro e w' ⟨x1, n1, rfl, hx1, rfl⟩) | (go_at_call_of 12 (Value.float .f64 p2); refine (H2.out _).mono ?_; rintro e w' ⟨x2, n2, rfl, hx2, rfl⟩) | (go_at_call_of 12 (Value.float .f64 p3); refine (H3.out _).mono ?_; rintro e w' ⟨x3, n3, rfl, hx3, rfl⟩))
    go_wp2_with fail
    go_meet
    exact ⟨x0, x1, x2, x3, ((((((hcut.out).drewN _).set 5 _ _ (set5 _ _ _ _ _ _ _ _ _ _ _)).set 6 _ _ (set6 _ _ _ _ _ _ _ _ _ _ _)).set 7 _ _ (set7 _ _ _ _ _ _ _ _ _ _ _)).set 8 _ _ (set8 _ _ _ _ _ _ _ _ _ _ _)).set 9 _ _ (set9 _ _ _ _ _ _ _ _ _ _ _), hx0, hx1, hx2, hx3⟩
  case rest =>
  clear k0 k1 k2 k3 m0 m1 m2 m3 k5 k6 k7 k8 k9 f5 f6 f7 f8 f9 KEEP H0 H1 H2 H3 HB
  obtain ⟨x0, x1, x2, x3, HS, hx0, hx1, hx2, hx3⟩ := hcut
  have k5 : wc.cell? ⟨B, 5, none⟩ = some (.float .f64 x0) := HS.out.cell 5 _ rfl
  have k6 : wc.cell? ⟨B, 6, none⟩ = some (.float .f64 x1) := HS.out.cell 6 _ rfl
  have k7 : wc.cell? ⟨B, 7, none⟩ = some (.float .f64 x2) := HS.out.cell 7 _ rfl
  have k8 : wc.cell? ⟨B, 8, none⟩ = some (.float .f64 x3) := HS.out.cell 8 _ rfl
  have k9 : wc.cell? ⟨B, 9, none⟩ = some (.float .f64 0) := HS.out.cell 9 _ rfl
  have f9 := HS.out.frozen 9
  have r1 := fun (w : World) (t' : TypeId) (x y : Nat) => run_float_any (P := Try.prog) w .add t' x y (.inl rfl)
  go_upto_region 3 with fail
  go_region
  go_wp2
  go_end0
  exact ⟨rfl, x0, x1, x2, x3, _, (HS.out.drewN _).set 9 _ _ (set9 _ _ _ _ _ _ _ _ _ _ _), hx0.out, hx1.out, hx2.out, hx3.out, _, _, fa_res .add _ _ _, fa_res .add _ _ _, fa_res .add _ _ _⟩

end Go.Proofs.Qxb6628154a.Fl
