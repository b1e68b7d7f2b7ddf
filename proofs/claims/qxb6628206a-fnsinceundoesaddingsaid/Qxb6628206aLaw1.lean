import Derived.Test.Qxb6628206aRows
import Derived.WalkKit
import Derived.ProofKit
import Derived.OpenShut
import Derived.Below
import Derived.WalkSpells
import Derived.WalkLawsBesides
import Derived.Outline
import Derived.Deep.QuietTactic
import Derived.BigQuiet
import Derived.BigRegion
import Derived.Deep.Light
import Derived.Deep.RegionHeld3
import Derived.Deep.DeepCutAuto
import Derived.Test.Qxb6628206aWalks1
namespace Go.Proofs.Qxb6628206a.Sv
open Go.ChangeShapes Go.WideShapes Go.ChangeAt Go.RowKit

/-- The rows that are known: a block's number, its seven counters. -/
def Rows7 (wx : World) (L : List (Nat × (Nat → Int))) : Prop := ∀ p ∈ L, wx.heap[p.1]? = some (.cells (sev p.2) 23 (0, 0))

/-- Behind w: the rows L lie in wx; old memory is as it was. -/
def Stt (w wx : World) (L : List (Nat × (Nat → Int))) : Prop := Rows7 wx L ∧ Below w.heap.size w wx

theorem Stt.step {w wc wx : World} {L : List (Nat × (Nat → Int))} {D : Nat} {f : Nat → Int} (h : Stt w wc L) (h1 : wx.heap[D]? = some (.cells (sev f) 23 (0, 0))) (h2 : Below wc.heap.size wc wx) : Stt w wx ((D, f) :: L) := by
  refine ⟨fun p hp => ?_, h.2.trans (h2.mono h.2.size)⟩
  rcases List.mem_cons.1 hp with rfl | hp
  · exact h1
  · have hx := h.1 p hp
    exact (h2.block p.1 (Array.getElem?_eq_some_iff.1 hx).1).trans hx

theorem Stt.row {w wx : World} {L : List (Nat × (Nat → Int))} (h : Stt w wx L) (D : Nat) (f : Nat → Int) (hm : (D, f) ∈ L) : wx.heap[D]? = some (.cells (sev f) 23 (0, 0)) := h.1 (D, f) hm

theorem cellsV {W : World} {b : Nat} {T : TypeId} {v : Nat → Int} (h : W.heap[b]? = some (.cells (sev v) T (0, 0))) :
    W.cell? ⟨b, 0, none⟩ = some (.int .u64 (v 0)) ∧ W.cell? ⟨b, 1, none⟩ = some (.int .u64 (v 1)) ∧ W.cell? ⟨b, 2, none⟩ = some (.int .u64 (v 2)) ∧ W.cell? ⟨b, 3, none⟩ = some (.int .u64 (v 3)) ∧ W.cell? ⟨b, 4, none⟩ = some (.int .u64 (v 4)) ∧ W.cell? ⟨b, 5, none⟩ = some (.int .u64 (v 5)) ∧ W.cell? ⟨b, 6, none⟩ = some (.int .u64 (v 6)) := by
  refine ⟨?_, ?_, ?_, ?_, ?_, ?_, ?_⟩ <;> (rw [cell_of_row W b _ _ _ _ h]; rfl)

theorem cellK {W : World} {b : Nat} {T : TypeId} {v : Nat → Int} (h : W.heap[b]? = some (.cells (sev v) T (0, 0))) (k : Nat) (hk : k < 7) : W.cell? ⟨b, k, none⟩ = some (.int .u64 (v k)) := by
  rw [cell_of_row W b _ _ _ _ h]
  match k, hk with
  | 0, _ => rfl
  | 1, _ => rfl
  | 2, _ => rfl
  | 3, _ => rfl
  | 4, _ => rfl
  | 5, _ => rfl
  | 6, _ => rfl

/-- Two rows that are read in a region: whatever is made meanwhile. -/
theorem keep2 {wc : World} {x y : Nat} {u v : Nat → Int} (hx : wc.heap[x]? = some (.cells (sev u) 23 (0, 0))) (hy : wc.heap[y]? = some (.cells (sev v) 23 (0, 0))) :
    ∀ w' : World, Below wc.heap.size wc w' → w'.cell? ⟨x, 0, none⟩ = some (.int .u64 (u 0)) ∧ w'.cell? ⟨x, 1, none⟩ = some (.int .u64 (u 1)) ∧ w'.cell? ⟨x, 2, none⟩ = some (.int .u64 (u 2)) ∧ w'.cell? ⟨x, 3, none⟩ = some (.int .u64 (u 3)) ∧ w'.cell? ⟨x, 4, none⟩ = some (.int .u64 (u 4)) ∧ w'.cell? ⟨x, 5, none⟩ = some (.int .u64 (u 5)) ∧ w'.cell? ⟨x, 6, none⟩ = some (.int .u64 (u 6)) ∧ w'.cell? ⟨y, 0, none⟩ = some (.int .u64 (v 0)) ∧ w'.cell? ⟨y, 1, none⟩ = some (.int .u64 (v 1)) ∧ w'.cell? ⟨y, 2, none⟩ = some (.int .u64 (v 2)) ∧ w'.cell? ⟨y, 3, none⟩ = some (.int .u64 (v 3)) ∧ w'.cell? ⟨y, 4, none⟩ = some (.int .u64 (v 4)) ∧ w'.cell? ⟨y, 5, none⟩ = some (.int .u64 (v 5)) ∧ w'.cell? ⟨y, 6, none⟩ = some (.int .u64 (v 6)) := by
  intro w' hb
  obtain ⟨a0, a1, a2, a3, a4, a5, a6⟩ := cellsV hx
  obtain ⟨b0, b1, b2, b3, b4, b5, b6⟩ := cellsV hy
  exact ⟨cell_later hb a0, cell_later hb a1, cell_later hb a2, cell_later hb a3, cell_later hb a4, cell_later hb a5, cell_later hb a6, cell_later hb b0, cell_later hb b1, cell_later hb b2, cell_later hb b3, cell_later hb b4, cell_later hb b5, cell_later hb b6⟩

theorem hd (w : World) : w.drew.heap = w.heap := rfl
theorem heap_at (w : World) (o : Obj) (n : Nat) (h : n = w.heap.size) : (w.alloc o).heap[n]? = some o := by subst h; exact heap_alloc_new w o

/-! ### uint64's wrap -/
theorem wrap_mod (x : Int) : IntKind.u64.wrap x = x % 18446744073709551616 := by simp [IntKind.wrap, IntKind.bits, IntKind.signed]
def U (v : Nat → Int) : Prop := ∀ k, k < 7 → 0 ≤ v k ∧ v k < 18446744073709551616
theorem back (a b : Nat → Int) (ha : U a) (k : Nat) (hk : k < 7) : (IntKind.u64.wrap (b k + df a b k) != a k) = false := by
  have h := ha k hk
  have : IntKind.u64.wrap (b k + df a b k) = a k := by unfold df; rw [wrap_mod, wrap_mod]; omega
  rw [this]; simp
theorem sumz (a b : Nat → Int) (k : Nat) : (IntKind.u64.wrap (df a b k + df b a k) != 0) = false := by
  have : IntKind.u64.wrap (df a b k + df b a k) = 0 := by unfold df; rw [wrap_mod, wrap_mod, wrap_mod]; omega
  rw [this]; simp
theorem adds (a b c : Nat → Int) (k : Nat) : (df c a k != IntKind.u64.wrap (df c b k + df b a k)) = false := by
  have : IntKind.u64.wrap (df c b k + df b a k) = df c a k := by unfold df; rw [wrap_mod, wrap_mod, wrap_mod, wrap_mod]; omega
  rw [this]; simp
theorem since0 (c : Nat → Int) (hc : U c) (k : Nat) (hk : k < 7) : (df c (fun _ => 0) k != c k) = false := by
  have h := hc k hk
  have : df c (fun _ => 0) k = c k := by
    show IntKind.u64.wrap (c k - 0) = c k
    rw [wrap_mod]; omega
  rw [this]; simp
theorem self0 (a : Nat → Int) (k : Nat) : (df a a k != 0) = false := by
  have : df a a k = 0 := by unfold df; rw [wrap_mod]; omega
  rw [this]; simp

theorem start2 (w : World) (a b : Nat → Int) : Stt w ((w.alloc (.cells (sev a) 23)).alloc (.cells (sev b) 23)) [(w.heap.size, a), (w.heap.size + 1, b)] := by
  refine ⟨?_, ((Below.refl _ _).alloc (Nat.le_refl _) _).alloc (by simp) _⟩
  intro p hp
  simp only [List.mem_cons, List.not_mem_nil, or_false] at hp
  rcases hp with rfl | rfl
  · rw [Below.heap_alloc _ _ _ (by simp)]; exact heap_at w _ _ rfl
  · exact heap_at _ _ _ (by simp)

set_option maxRecDepth 20000 in
set_option maxHeartbeats 1000000 in
theorem law1 (a b : Nat → Int) (ha : U a) (w : World) :
    Calls Try.prog 3 #[.agg (sev a), .agg (sev b)] w fun e w' => e = .returned (.bool true) ∧ Below w.heap.size w w' := by
  have HST := hid stats_any
  have HCT := hid counts_any
  have HSI := hid since_any
  have HA := hid ha
  clear ha
  unfold sev
  go_enter Try.func3, Try.ntmps3
  go_upto_region 0 with fail
  go_cut [2, 3] (fun s2 s3 wx => s2 = .pointer (some ⟨w.heap.size, 0, none⟩) ∧ s3 = .pointer (some ⟨w.heap.size + 1, 0, none⟩) ∧ Hid (Stt w wx [(w.heap.size, a), (w.heap.size + 1, b)]))
  case first =>
    go_wp2_with fail
    go_meet
    exact ⟨rfl, rfl, start2 w a b⟩
  case rest =>
  obtain ⟨rfl, rfl, HW⟩ := hcut
  have KEEP := hid (keep2 (HW.out.row (w.heap.size) a (by simp)) (HW.out.row (w.heap.size + 1) b (by simp)))
  obtain ⟨e0, e1, e2, e3, e4, e5, e6⟩ := cellsV (HW.out.row (w.heap.size) a (by simp))
  obtain ⟨f0, f1, f2, f3, f4, f5, f6⟩ := cellsV (HW.out.row (w.heap.size + 1) b (by simp))
  go_upto_region 1 with fail
  go_cut [5] (fun s wx => ∃ Dn, s = .pointer (some ⟨Dn, 0, none⟩) ∧ Hid (Stt w wx ((Dn, df a b) :: [(w.heap.size, a), (w.heap.size + 1, b)])))
  case first =>
    go_region_held3 (fun w' => w'.cell? ⟨w.heap.size, 0, none⟩ = some (.int .u64 (a 0)) ∧ w'.cell? ⟨w.heap.size, 1, none⟩ = some (.int .u64 (a 1)) ∧ w'.cell? ⟨w.heap.size, 2, none⟩ = some (.int .u64 (a 2)) ∧ w'.cell? ⟨w.heap.size, 3, none⟩ = some (.int .u64 (a 3)) ∧ w'.cell? ⟨w.heap.size, 4, none⟩ = some (.int .u64 (a 4)) ∧ w'.cell? ⟨w.heap.size, 5, none⟩ = some (.int .u64 (a 5)) ∧ w'.cell? ⟨w.heap.size, 6, none⟩ = some (.int .u64 (a 6)) ∧ w'.cell? ⟨w.heap.size + 1, 0, none⟩ = some (.int .u64 (b 0)) ∧ w'.cell? ⟨w.heap.size + 1, 1, none⟩ = some (.int .u64 (b 1)) ∧ w'.cell? ⟨w.heap.size + 1, 2, none⟩ = some (.int .u64 (b 2)) ∧ w'.cell? ⟨w.heap.size + 1, 3, none⟩ = some (.int .u64 (b 3)) ∧ w'.cell? ⟨w.heap.size + 1, 4, none⟩ = some (.int .u64 (b 4)) ∧ w'.cell? ⟨w.heap.size + 1, 5, none⟩ = some (.int .u64 (b 5)) ∧ w'.cell? ⟨w.heap.size + 1, 6, none⟩ = some (.int .u64 (b 6))) ((refine KEEP.out _ ?_; repeat (first | with_reducible exact Below.refl _ _ | with_reducible refine Below.drew ?_ | with_reducible refine Below.alloc ?_ (by simp <;> omega) _ | with_reducible refine Below.setCell ?_ (by simp <;> omega) _)))
      (first | (go_at_call_of 6 (a 0); refine (HST.out a _).mono ?_; rintro e w' ⟨rfl, rfl⟩; simp only [sev]) | (go_at_call_of 6 (b 0); refine (HST.out b _).mono ?_; rintro e w' ⟨rfl, rfl⟩; simp only [sev]) | (go_at_call 7; refine (HSI.out a b _).mono ?_; rintro e w' ⟨rfl, rfl⟩; simp only [sev]) | (go_at_call 5; refine (HCT.out (df a b) _).mono ?_; rintro e w' ⟨rfl, rfl⟩; simp only [sev]))
    all_goals
      go_wp2_with fail
      go_meet
      refine ⟨_, rfl, HW.out.step ?_ ?_⟩
      · simp only [sev]
        repeat (first | with_reducible exact heap_at _ _ _ (by simp) | rw [Below.heap_alloc _ _ _ (by simp <;> omega)] | rw [hd])
      · repeat (first | with_reducible exact Below.refl _ _ | with_reducible refine Below.drew ?_ | with_reducible refine Below.alloc ?_ (by simp <;> omega) _ | with_reducible refine Below.setCell ?_ (by simp <;> omega) _)
  case rest =>
  clear KEEP HW e0 e1 e2 e3 e4 e5 e6 f0 f1 f2 f3 f4 f5 f6
  obtain ⟨D, rfl, HW1⟩ := hcut
  have KEEP := hid (keep2 (HW1.out.row (w.heap.size + 1) b (by simp)) (HW1.out.row (w.heap.size) a (by simp)))
  obtain ⟨e0, e1, e2, e3, e4, e5, e6⟩ := cellsV (HW1.out.row (w.heap.size + 1) b (by simp))
  obtain ⟨f0, f1, f2, f3, f4, f5, f6⟩ := cellsV (HW1.out.row (w.heap.size) a (by simp))
  go_upto_region 2 with fail
  go_cut [6] (fun s wx => ∃ Dn, s = .pointer (some ⟨Dn, 0, none⟩) ∧ Hid (Stt w wx ((Dn, df b a) :: [(D, df a b), (w.heap.size, a), (w.heap.size + 1, b)])))
  case first =>
    go_region_held3 (fun w' => w'.cell? ⟨w.heap.size + 1, 0, none⟩ = some (.int .u64 (b 0)) ∧ w'.cell? ⟨w.heap.size + 1, 1, none⟩ = some (.int .u64 (b 1)) ∧ w'.cell? ⟨w.heap.size + 1, 2, none⟩ = some (.int .u64 (b 2)) ∧ w'.cell? ⟨w.heap.size + 1, 3, none⟩ = some (.int .u64 (b 3)) ∧ w'.cell? ⟨w.heap.size + 1, 4, none⟩ = some (.int .u64 (b 4)) ∧ w'.cell? ⟨w.heap.size + 1, 5, none⟩ = some (.int .u64 (b 5)) ∧ w'.cell? ⟨w.heap.size + 1, 6, none⟩ = some (.int .u64 (b 6)) ∧ w'.cell? ⟨w.heap.size, 0, none⟩ = some (.int .u64 (a 0)) ∧ w'.cell? ⟨w.heap.size, 1, none⟩ = some (.int .u64 (a 1)) ∧ w'.cell? ⟨w.heap.size, 2, none⟩ = some (.int .u64 (a 2)) ∧ w'.cell? ⟨w.heap.size, 3, none⟩ = some (.int .u64 (a 3)) ∧ w'.cell? ⟨w.heap.size, 4, none⟩ = some (.int .u64 (a 4)) ∧ w'.cell? ⟨w.heap.size, 5, none⟩ = some (.int .u64 (a 5)) ∧ w'.cell? ⟨w.heap.size, 6, none⟩ = some (.int .u64 (a 6))) ((refine KEEP.out _ ?_; repeat (first | with_reducible exact Below.refl _ _ | with_reducible refine Below.drew ?_ | with_reducible refine Below.alloc ?_ (by simp <;> omega) _ | with_reducible refine Below.setCell ?_ (by simp <;> omega) _)))
      (first | (go_at_call_of 6 (b 0); refine (HST.out b _).mono ?_; rintro e w' ⟨rfl, rfl⟩; simp only [sev]) | (go_at_call_of 6 (a 0); refine (HST.out a _).mono ?_; rintro e w' ⟨rfl, rfl⟩; simp only [sev]) | (go_at_call 7; refine (HSI.out b a _).mono ?_; rintro e w' ⟨rfl, rfl⟩; simp only [sev]) | (go_at_call 5; refine (HCT.out (df b a) _).mono ?_; rintro e w' ⟨rfl, rfl⟩; simp only [sev]))
    all_goals
      go_wp2_with fail
      go_meet
      refine ⟨_, rfl, HW1.out.step ?_ ?_⟩
      · simp only [sev]
        repeat (first | with_reducible exact heap_at _ _ _ (by simp) | rw [Below.heap_alloc _ _ _ (by simp <;> omega)] | rw [hd])
      · repeat (first | with_reducible exact Below.refl _ _ | with_reducible refine Below.drew ?_ | with_reducible refine Below.alloc ?_ (by simp <;> omega) _ | with_reducible refine Below.setCell ?_ (by simp <;> omega) _)
  case rest =>
  clear KEEP HW1 e0 e1 e2 e3 e4 e5 e6 f0 f1 f2 f3 f4 f5 f6
  obtain ⟨E, rfl, HW2⟩ := hcut
  clear HST HCT HSI
  go_wp2_with fail
  go_loopw [7] (fun i wr => ∃ k q : Nat, k ≤ 7 ∧ i = .int .i64 k ∧ wr = wc.drewN q) (fun i _ => 7 - (intOf i).toNat)
  case atStart => exact ⟨0, 0, by omega, rfl, rfl⟩
  case round =>
    obtain ⟨k, q, hk, rfl, rfl⟩ := hrel
    by_cases hlt : k < 7
    · have ga := cellK (HW2.out.row (w.heap.size) a (by simp)) k hlt
      have gb := cellK (HW2.out.row (w.heap.size + 1) b (by simp)) k hlt
      have gd := cellK (HW2.out.row D (df a b) (by simp)) k hlt
      have ge := cellK (HW2.out.row E (df b a) (by simp)) k hlt
      have t1 := back a b HA.out k hlt
      have t2 := sumz a b k
      have i1 : (0 : Int) ≤ (k : Int) := by omega
      have i2 : (k : Int) < 7 := by omega
      go_wp2
      go_quiet (fail)
      go_wp2
      go_quiet (fail)
      go_wp2
      go_roundw
      case rel => exact ⟨k + 1, _, by omega, by go_num, rfl⟩
      case measure => simp [intOf]; omega
    · go_wp2
      go_ret
      exact ⟨rfl, by have h := HW2.out.2; exact ⟨h.os, h.tape, h.output, h.size, h.block⟩⟩

end Go.Proofs.Qxb6628206a.Sv
