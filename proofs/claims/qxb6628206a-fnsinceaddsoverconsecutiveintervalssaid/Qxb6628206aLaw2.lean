import Derived.Test.Qxb6628206aRows
import Derived.WalkKit
import Derived.ProofKit
import Derived.OpenShut
import Derived.Below
import Derived.WalkSpells
import Derived.WalkLawsBesides
import Derived.Outline
import Derived.Deep.QuietTactic
import Derived.BigQuiet
import Derived.BigRegion
import Derived.Deep.Light
import Derived.Deep.RegionHeld3
import Derived.Deep.DeepCutAuto
import Derived.Test.Qxb6628206aWalks1
import Derived.Test.Qxb6628206aLaw1
namespace Go.Proofs.Qxb6628206a.Sv
open Go.ChangeShapes Go.WideShapes Go.ChangeAt Go.RowKit

def zr (_ : Nat) : Int := 0

theorem start3 (w : World) (a b c : Nat → Int) : Stt w (((w.alloc (.cells (sev a) 23)).alloc (.cells (sev b) 23)).alloc (.cells (sev c) 23)) [(w.heap.size, a), (w.heap.size + 1, b), (w.heap.size + 2, c)] := by
  refine ⟨?_, (((Below.refl _ _).alloc (Nat.le_refl _) _).alloc (by simp) _).alloc (by simp; omega) _⟩
  intro p hp
  simp only [List.mem_cons, List.not_mem_nil, or_false] at hp
  rcases hp with rfl | rfl | rfl
  · rw [Below.heap_alloc _ _ _ (by simp; omega), Below.heap_alloc _ _ _ (by simp)]; exact heap_at w _ _ rfl
  · rw [Below.heap_alloc _ _ _ (by simp)]; exact heap_at _ _ _ (by simp)
  · exact heap_at _ _ _ (by simp)

theorem since_z (c : Nat → Int) (hc : U c) (k : Nat) (hk : k < 7) : (df c zr k != c k) = false := since0 c hc k hk

set_option maxRecDepth 20000 in
set_option maxHeartbeats 2000000 in
theorem law2 (a b c : Nat → Int) (hc : U c) (w : World) :
    Calls Try.prog 4 #[.agg (sev a), .agg (sev b), .agg (sev c)] w fun e w' => e = .returned (.bool true) ∧ Below w.heap.size w w' := by
  have HST := hid stats_any
  have HCT := hid counts_any
  have HSI := hid since_any
  have HC := hid hc
  clear hc
  unfold sev
  go_enter Try.func4, Try.ntmps4
  go_upto_region 0 with fail
  go_cut [3, 4, 5] (fun s3 s4 s5 wx => s3 = .pointer (some ⟨w.heap.size, 0, none⟩) ∧ s4 = .pointer (some ⟨w.heap.size + 1, 0, none⟩) ∧ s5 = .pointer (some ⟨w.heap.size + 2, 0, none⟩) ∧ Hid (Stt w wx [(w.heap.size, a), (w.heap.size + 1, b), (w.heap.size + 2, c)]))
  case first =>
    go_wp2_with fail
    go_meet
    exact ⟨rfl, rfl, rfl, start3 w a b c⟩
  case rest =>
  obtain ⟨rfl, rfl, rfl, HW⟩ := hcut
  go_upto_region 1 with fail
  go_cut [7] (fun s wx => ∃ Dn, s = .pointer (some ⟨Dn, 0, none⟩) ∧ Hid (Stt w wx ((Dn, zr) :: [(w.heap.size, a), (w.heap.size + 1, b), (w.heap.size + 2, c)])))
  case first =>
    go_wp2_with fail
    go_meet
    exact ⟨_, rfl, HW.out.step (heap_at _ _ _ rfl) ((Below.refl _ _).alloc (Nat.le_refl _) _)⟩
  case rest =>
  clear HW
  obtain ⟨Z, rfl, HW⟩ := hcut
  have KEEP := hid (keep2 (HW.out.row (w.heap.size + 2) c (by simp)) (HW.out.row (w.heap.size) a (by simp)))
  obtain ⟨e0, e1, e2, e3, e4, e5, e6⟩ := cellsV (HW.out.row (w.heap.size + 2) c (by simp))
  obtain ⟨f0, f1, f2, f3, f4, f5, f6⟩ := cellsV (HW.out.row (w.heap.size) a (by simp))
  go_upto_region 2 with fail
  go_cut [8] (fun s wx => ∃ Dn, s = .pointer (some ⟨Dn, 0, none⟩) ∧ Hid (Stt w wx ((Dn, df c a) :: [(Z, zr), (w.heap.size, a), (w.heap.size + 1, b), (w.heap.size + 2, c)])))
  case first =>
    go_region_held3 (fun w' => w'.cell? ⟨w.heap.size + 2, 0, none⟩ = some (.int .u64 (c 0)) ∧ w'.cell? ⟨w.heap.size + 2, 1, none⟩ = some (.int .u64 (c 1)) ∧ w'.cell? ⟨w.heap.size + 2, 2, none⟩ = some (.int .u64 (c 2)) ∧ w'.cell? ⟨w.heap.size + 2, 3, none⟩ = some (.int .u64 (c 3)) ∧ w'.cell? ⟨w.heap.size + 2, 4, none⟩ = some (.int .u64 (c 4)) ∧ w'.cell? ⟨w.heap.size + 2, 5, none⟩ = some (.int .u64 (c 5)) ∧ w'.cell? ⟨w.heap.size + 2, 6, none⟩ = some (.int .u64 (c 6)) ∧ w'.cell? ⟨w.heap.size, 0, none⟩ = some (.int .u64 (a 0)) ∧ w'.cell? ⟨w.heap.size, 1, none⟩ = some (.int .u64 (a 1)) ∧ w'.cell? ⟨w.heap.size, 2, none⟩ = some (.int .u64 (a 2)) ∧ w'.cell? ⟨w.heap.size, 3, none⟩ = some (.int .u64 (a 3)) ∧ w'.cell? ⟨w.heap.size, 4, none⟩ = some (.int .u64 (a 4)) ∧ w'.cell? ⟨w.heap.size, 5, none⟩ = some (.int .u64 (a 5)) ∧ w'.cell? ⟨w.heap.size, 6, none⟩ = some (.int .u64 (a 6))) ((refine KEEP.out _ ?_; repeat (first | with_reducible exact Below.refl _ _ | with_reducible refine Below.drew ?_ | with_reducible refine Below.alloc ?_ (by simp <;> omega) _ | with_reducible refine Below.setCell ?_ (by simp <;> omega) _)))
      (first | (go_at_call_of 6 (c 0); refine (HST.out c _).mono ?_; rintro e w' ⟨rfl, rfl⟩; simp only [sev]) | (go_at_call_of 6 (a 0); refine (HST.out a _).mono ?_; rintro e w' ⟨rfl, rfl⟩; simp only [sev]) | (go_at_call 7; refine (HSI.out c a _).mono ?_; rintro e w' ⟨rfl, rfl⟩; simp only [sev]) | (go_at_call 5; refine (HCT.out (df c a) _).mono ?_; rintro e w' ⟨rfl, rfl⟩; simp only [sev]))
    all_goals
      go_wp2_with fail
      go_meet
      refine ⟨_, rfl, HW.out.step ?_ ?_⟩
      · simp only [sev]
        repeat (first | with_reducible exact heap_at _ _ _ (by simp) | rw [Below.heap_alloc _ _ _ (by simp <;> omega)] | rw [hd])
      · repeat (first | with_reducible exact Below.refl _ _ | with_reducible refine Below.drew ?_ | with_reducible refine Below.alloc ?_ (by simp <;> omega) _ | with_reducible refine Below.setCell ?_ (by simp <;> omega) _)
  case rest =>
  clear KEEP HW e0 e1 e2 e3 e4 e5 e6 f0 f1 f2 f3 f4 f5 f6
  obtain ⟨CA, rfl, HW1⟩ := hcut
  have KEEP := hid (keep2 (HW1.out.row (w.heap.size + 2) c (by simp)) (HW1.out.row (w.heap.size + 1) b (by simp)))
  obtain ⟨e0, e1, e2, e3, e4, e5, e6⟩ := cellsV (HW1.out.row (w.heap.size + 2) c (by simp))
  obtain ⟨f0, f1, f2, f3, f4, f5, f6⟩ := cellsV (HW1.out.row (w.heap.size + 1) b (by simp))
  go_upto_region 3 with fail
  go_cut [9] (fun s wx => ∃ Dn, s = .pointer (some ⟨Dn, 0, none⟩) ∧ Hid (Stt w wx ((Dn, df c b) :: [(CA, df c a), (Z, zr), (w.heap.size, a), (w.heap.size + 1, b), (w.heap.size + 2, c)])))
  case first =>
    go_region_held3 (fun w' => w'.cell? ⟨w.heap.size + 2, 0, none⟩ = some (.int .u64 (c 0)) ∧ w'.cell? ⟨w.heap.size + 2, 1, none⟩ = some (.int .u64 (c 1)) ∧ w'.cell? ⟨w.heap.size + 2, 2, none⟩ = some (.int .u64 (c 2)) ∧ w'.cell? ⟨w.heap.size + 2, 3, none⟩ = some (.int .u64 (c 3)) ∧ w'.cell? ⟨w.heap.size + 2, 4, none⟩ = some (.int .u64 (c 4)) ∧ w'.cell? ⟨w.heap.size + 2, 5, none⟩ = some (.int .u64 (c 5)) ∧ w'.cell? ⟨w.heap.size + 2, 6, none⟩ = some (.int .u64 (c 6)) ∧ w'.cell? ⟨w.heap.size + 1, 0, none⟩ = some (.int .u64 (b 0)) ∧ w'.cell? ⟨w.heap.size + 1, 1, none⟩ = some (.int .u64 (b 1)) ∧ w'.cell? ⟨w.heap.size + 1, 2, none⟩ = some (.int .u64 (b 2)) ∧ w'.cell? ⟨w.heap.size + 1, 3, none⟩ = some (.int .u64 (b 3)) ∧ w'.cell? ⟨w.heap.size + 1, 4, none⟩ = some (.int .u64 (b 4)) ∧ w'.cell? ⟨w.heap.size + 1, 5, none⟩ = some (.int .u64 (b 5)) ∧ w'.cell? ⟨w.heap.size + 1, 6, none⟩ = some (.int .u64 (b 6))) ((refine KEEP.out _ ?_; repeat (first | with_reducible exact Below.refl _ _ | with_reducible refine Below.drew ?_ | with_reducible refine Below.alloc ?_ (by simp <;> omega) _ | with_reducible refine Below.setCell ?_ (by simp <;> omega) _)))
      (first | (go_at_call_of 6 (c 0); refine (HST.out c _).mono ?_; rintro e w' ⟨rfl, rfl⟩; simp only [sev]) | (go_at_call_of 6 (b 0); refine (HST.out b _).mono ?_; rintro e w' ⟨rfl, rfl⟩; simp only [sev]) | (go_at_call 7; refine (HSI.out c b _).mono ?_; rintro e w' ⟨rfl, rfl⟩; simp only [sev]) | (go_at_call 5; refine (HCT.out (df c b) _).mono ?_; rintro e w' ⟨rfl, rfl⟩; simp only [sev]))
    all_goals
      go_wp2_with fail
      go_meet
      refine ⟨_, rfl, HW1.out.step ?_ ?_⟩
      · simp only [sev]
        repeat (first | with_reducible exact heap_at _ _ _ (by simp) | rw [Below.heap_alloc _ _ _ (by simp <;> omega)] | rw [hd])
      · repeat (first | with_reducible exact Below.refl _ _ | with_reducible refine Below.drew ?_ | with_reducible refine Below.alloc ?_ (by simp <;> omega) _ | with_reducible refine Below.setCell ?_ (by simp <;> omega) _)
  case rest =>
  clear KEEP HW1 e0 e1 e2 e3 e4 e5 e6 f0 f1 f2 f3 f4 f5 f6
  obtain ⟨CB, rfl, HW2⟩ := hcut
  have KEEP := hid (keep2 (HW2.out.row (w.heap.size + 1) b (by simp)) (HW2.out.row (w.heap.size) a (by simp)))
  obtain ⟨e0, e1, e2, e3, e4, e5, e6⟩ := cellsV (HW2.out.row (w.heap.size + 1) b (by simp))
  obtain ⟨f0, f1, f2, f3, f4, f5, f6⟩ := cellsV (HW2.out.row (w.heap.size) a (by simp))
  go_upto_region 4 with fail
  go_cut [10] (fun s wx => ∃ Dn, s = .pointer (some ⟨Dn, 0, none⟩) ∧ Hid (Stt w wx ((Dn, df b a) :: [(CB, df c b), (CA, df c a), (Z, zr), (w.heap.size, a), (w.heap.size + 1, b), (w.heap.size + 2, c)])))
  case first =>
    go_region_held3 (fun w' => w'.cell? ⟨w.heap.size + 1, 0, none⟩ = some (.int .u64 (b 0)) ∧ w'.cell? ⟨w.heap.size + 1, 1, none⟩ = some (.int .u64 (b 1)) ∧ w'.cell? ⟨w.heap.size + 1, 2, none⟩ = some (.int .u64 (b 2)) ∧ w'.cell? ⟨w.heap.size + 1, 3, none⟩ = some (.int .u64 (b 3)) ∧ w'.cell? ⟨w.heap.size + 1, 4, none⟩ = some (.int .u64 (b 4)) ∧ w'.cell? ⟨w.heap.size + 1, 5, none⟩ = some (.int .u64 (b 5)) ∧ w'.cell? ⟨w.heap.size + 1, 6, none⟩ = some (.int .u64 (b 6)) ∧ w'.cell? ⟨w.heap.size, 0, none⟩ = some (.int .u64 (a 0)) ∧ w'.cell? ⟨w.heap.size, 1, none⟩ = some (.int .u64 (a 1)) ∧ w'.cell? ⟨w.heap.size, 2, none⟩ = some (.int .u64 (a 2)) ∧ w'.cell? ⟨w.heap.size, 3, none⟩ = some (.int .u64 (a 3)) ∧ w'.cell? ⟨w.heap.size, 4, none⟩ = some (.int .u64 (a 4)) ∧ w'.cell? ⟨w.heap.size, 5, none⟩ = some (.int .u64 (a 5)) ∧ w'.cell? ⟨w.heap.size, 6, none⟩ = some (.int .u64 (a 6))) ((refine KEEP.out _ ?_; repeat (first | with_reducible exact Below.refl _ _ | with_reducible refine Below.drew ?_ | with_reducible refine Below.alloc ?_ (by simp <;> omega) _ | with_reducible refine Below.setCell ?_ (by simp <;> omega) _)))
      (first | (go_at_call_of 6 (b 0); refine (HST.out b _).mono ?_; rintro e w' ⟨rfl, rfl⟩; simp only [sev]) | (go_at_call_of 6 (a 0); refine (HST.out a _).mono ?_; rintro e w' ⟨rfl, rfl⟩; simp only [sev]) | (go_at_call 7; refine (HSI.out b a _).mono ?_; rintro e w' ⟨rfl, rfl⟩; simp only [sev]) | (go_at_call 5; refine (HCT.out (df b a) _).mono ?_; rintro e w' ⟨rfl, rfl⟩; simp only [sev]))
    all_goals
      go_wp2_with fail
      go_meet
      refine ⟨_, rfl, HW2.out.step ?_ ?_⟩
      · simp only [sev]
        repeat (first | with_reducible exact heap_at _ _ _ (by simp) | rw [Below.heap_alloc _ _ _ (by simp <;> omega)] | rw [hd])
      · repeat (first | with_reducible exact Below.refl _ _ | with_reducible refine Below.drew ?_ | with_reducible refine Below.alloc ?_ (by simp <;> omega) _ | with_reducible refine Below.setCell ?_ (by simp <;> omega) _)
  case rest =>
  clear KEEP HW2 e0 e1 e2 e3 e4 e5 e6 f0 f1 f2 f3 f4 f5 f6
  obtain ⟨BA, rfl, HW3⟩ := hcut
  have KEEP := hid (keep2 (HW3.out.row (w.heap.size + 2) c (by simp)) (HW3.out.row (Z) zr (by simp)))
  obtain ⟨e0, e1, e2, e3, e4, e5, e6⟩ := cellsV (HW3.out.row (w.heap.size + 2) c (by simp))
  obtain ⟨f0, f1, f2, f3, f4, f5, f6⟩ := cellsV (HW3.out.row (Z) zr (by simp))
  go_upto_region 5 with fail
  go_cut [11] (fun s wx => ∃ Dn, s = .pointer (some ⟨Dn, 0, none⟩) ∧ Hid (Stt w wx ((Dn, df c zr) :: [(BA, df b a), (CB, df c b), (CA, df c a), (Z, zr), (w.heap.size, a), (w.heap.size + 1, b), (w.heap.size + 2, c)])))
  case first =>
    go_region_held3 (fun w' => w'.cell? ⟨w.heap.size + 2, 0, none⟩ = some (.int .u64 (c 0)) ∧ w'.cell? ⟨w.heap.size + 2, 1, none⟩ = some (.int .u64 (c 1)) ∧ w'.cell? ⟨w.heap.size + 2, 2, none⟩ = some (.int .u64 (c 2)) ∧ w'.cell? ⟨w.heap.size + 2, 3, none⟩ = some (.int .u64 (c 3)) ∧ w'.cell? ⟨w.heap.size + 2, 4, none⟩ = some (.int .u64 (c 4)) ∧ w'.cell? ⟨w.heap.size + 2, 5, none⟩ = some (.int .u64 (c 5)) ∧ w'.cell? ⟨w.heap.size + 2, 6, none⟩ = some (.int .u64 (c 6)) ∧ w'.cell? ⟨Z, 0, none⟩ = some (.int .u64 (zr 0)) ∧ w'.cell? ⟨Z, 1, none⟩ = some (.int .u64 (zr 1)) ∧ w'.cell? ⟨Z, 2, none⟩ = some (.int .u64 (zr 2)) ∧ w'.cell? ⟨Z, 3, none⟩ = some (.int .u64 (zr 3)) ∧ w'.cell? ⟨Z, 4, none⟩ = some (.int .u64 (zr 4)) ∧ w'.cell? ⟨Z, 5, none⟩ = some (.int .u64 (zr 5)) ∧ w'.cell? ⟨Z, 6, none⟩ = some (.int .u64 (zr 6))) ((refine KEEP.out _ ?_; repeat (first | with_reducible exact Below.refl _ _ | with_reducible refine Below.drew ?_ | with_reducible refine Below.alloc ?_ (by simp <;> omega) _ | with_reducible refine Below.setCell ?_ (by simp <;> omega) _)))
      (first | (go_at_call_of 6 (c 0); refine (HST.out c _).mono ?_; rintro e w' ⟨rfl, rfl⟩; simp only [sev]) | (go_at_call_of 6 (zr 0); refine (HST.out zr _).mono ?_; rintro e w' ⟨rfl, rfl⟩; simp only [sev]) | (go_at_call 7; refine (HSI.out c zr _).mono ?_; rintro e w' ⟨rfl, rfl⟩; simp only [sev]) | (go_at_call 5; refine (HCT.out (df c zr) _).mono ?_; rintro e w' ⟨rfl, rfl⟩; simp only [sev]))
    all_goals
      go_wp2_with fail
      go_meet
      refine ⟨_, rfl, HW3.out.step ?_ ?_⟩
      · simp only [sev]
        repeat (first | with_reducible exact heap_at _ _ _ (by simp) | rw [Below.heap_alloc _ _ _ (by simp <;> omega)] | rw [hd])
      · repeat (first | with_reducible exact Below.refl _ _ | with_reducible refine Below.drew ?_ | with_reducible refine Below.alloc ?_ (by simp <;> omega) _ | with_reducible refine Below.setCell ?_ (by simp <;> omega) _)
  case rest =>
  clear KEEP HW3 e0 e1 e2 e3 e4 e5 e6 f0 f1 f2 f3 f4 f5 f6
  obtain ⟨C0, rfl, HW4⟩ := hcut
  have KEEP := hid (keep2 (HW4.out.row (w.heap.size) a (by simp)) (HW4.out.row (w.heap.size) a (by simp)))
  obtain ⟨e0, e1, e2, e3, e4, e5, e6⟩ := cellsV (HW4.out.row (w.heap.size) a (by simp))
  obtain ⟨f0, f1, f2, f3, f4, f5, f6⟩ := cellsV (HW4.out.row (w.heap.size) a (by simp))
  go_upto_region 6 with fail
  go_cut [12] (fun s wx => ∃ Dn, s = .pointer (some ⟨Dn, 0, none⟩) ∧ Hid (Stt w wx ((Dn, df a a) :: [(C0, df c zr), (BA, df b a), (CB, df c b), (CA, df c a), (Z, zr), (w.heap.size, a), (w.heap.size + 1, b), (w.heap.size + 2, c)])))
  case first =>
    go_region_held3 (fun w' => w'.cell? ⟨w.heap.size, 0, none⟩ = some (.int .u64 (a 0)) ∧ w'.cell? ⟨w.heap.size, 1, none⟩ = some (.int .u64 (a 1)) ∧ w'.cell? ⟨w.heap.size, 2, none⟩ = some (.int .u64 (a 2)) ∧ w'.cell? ⟨w.heap.size, 3, none⟩ = some (.int .u64 (a 3)) ∧ w'.cell? ⟨w.heap.size, 4, none⟩ = some (.int .u64 (a 4)) ∧ w'.cell? ⟨w.heap.size, 5, none⟩ = some (.int .u64 (a 5)) ∧ w'.cell? ⟨w.heap.size, 6, none⟩ = some (.int .u64 (a 6)) ∧ w'.cell? ⟨w.heap.size, 0, none⟩ = some (.int .u64 (a 0)) ∧ w'.cell? ⟨w.heap.size, 1, none⟩ = some (.int .u64 (a 1)) ∧ w'.cell? ⟨w.heap.size, 2, none⟩ = some (.int .u64 (a 2)) ∧ w'.cell? ⟨w.heap.size, 3, none⟩ = some (.int .u64 (a 3)) ∧ w'.cell? ⟨w.heap.size, 4, none⟩ = some (.int .u64 (a 4)) ∧ w'.cell? ⟨w.heap.size, 5, none⟩ = some (.int .u64 (a 5)) ∧ w'.cell? ⟨w.heap.size, 6, none⟩ = some (.int .u64 (a 6))) ((refine KEEP.out _ ?_; repeat (first | with_reducible exact Below.refl _ _ | with_reducible refine Below.drew ?_ | with_reducible refine Below.alloc ?_ (by simp <;> omega) _ | with_reducible refine Below.setCell ?_ (by simp <;> omega) _)))
      (first | (go_at_call_of 6 (a 0); refine (HST.out a _).mono ?_; rintro e w' ⟨rfl, rfl⟩; simp only [sev]) | (go_at_call 7; refine (HSI.out a a _).mono ?_; rintro e w' ⟨rfl, rfl⟩; simp only [sev]) | (go_at_call 5; refine (HCT.out (df a a) _).mono ?_; rintro e w' ⟨rfl, rfl⟩; simp only [sev]))
    all_goals
      go_wp2_with fail
      go_meet
      refine ⟨_, rfl, HW4.out.step ?_ ?_⟩
      · simp only [sev]
        repeat (first | with_reducible exact heap_at _ _ _ (by simp) | rw [Below.heap_alloc _ _ _ (by simp <;> omega)] | rw [hd])
      · repeat (first | with_reducible exact Below.refl _ _ | with_reducible refine Below.drew ?_ | with_reducible refine Below.alloc ?_ (by simp <;> omega) _ | with_reducible refine Below.setCell ?_ (by simp <;> omega) _)
  case rest =>
  clear KEEP HW4 e0 e1 e2 e3 e4 e5 e6 f0 f1 f2 f3 f4 f5 f6
  obtain ⟨AA, rfl, HW5⟩ := hcut
  clear HST HCT HSI
  go_wp2_with fail
  go_loopw [13] (fun i wr => ∃ k q : Nat, k ≤ 7 ∧ i = .int .i64 k ∧ wr = wc.drewN q) (fun i _ => 7 - (intOf i).toNat)
  case atStart => exact ⟨0, 0, by omega, rfl, rfl⟩
  case round =>
    obtain ⟨k, q, hk, rfl, rfl⟩ := hrel
    by_cases hlt : k < 7
    · have g1 := cellK (HW5.out.row CA (df c a) (by simp)) k hlt
      have g2 := cellK (HW5.out.row CB (df c b) (by simp)) k hlt
      have g3 := cellK (HW5.out.row BA (df b a) (by simp)) k hlt
      have g4 := cellK (HW5.out.row C0 (df c zr) (by simp)) k hlt
      have g5 := cellK (HW5.out.row AA (df a a) (by simp)) k hlt
      have g6 := cellK (HW5.out.row (w.heap.size + 2) c (by simp)) k hlt
      have t1 := adds a b c k
      have t2 := since_z c HC.out k hlt
      have t3 := self0 a k
      have i1 : (0 : Int) ≤ (k : Int) := by omega
      have i2 : (k : Int) < 7 := by omega
      go_wp2
      go_quiet (fail)
      go_wp2
      go_quiet (fail)
      go_wp2
      go_roundw
      case rel => exact ⟨k + 1, _, by omega, by go_num, rfl⟩
      case measure => simp [intOf]; omega
    · go_wp2
      go_ret
      exact ⟨rfl, by have h := HW5.out.2; exact ⟨h.os, h.tape, h.output, h.size, h.block⟩⟩

end Go.Proofs.Qxb6628206a.Sv
