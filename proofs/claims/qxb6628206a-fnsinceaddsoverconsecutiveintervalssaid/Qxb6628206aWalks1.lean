import Derived.Test.Qxb6628206aRows
import Derived.WalkKit
import Derived.ProofKit
import Derived.OpenShut
import Derived.Below
import Derived.WalkSpells
import Derived.WalkLawsBesides
import Derived.Outline
import Derived.Deep.QuietTactic
import Derived.BigQuiet
import Derived.BigRegion
import Derived.Deep.Light
import Derived.Deep.RegionHeld3
import Derived.Deep.DeepCutAuto
namespace Go.Proofs.Qxb6628206a.Sv
open Go.ChangeShapes Go.WideShapes Go.ChangeAt Go.RowKit

theorem hid {p : Prop} (h : p) : Hid p := h

/-- Seven counters. -/
def sev (v : Nat → Int) : Array Value := #[.int .u64 (v 0), .int .u64 (v 1), .int .u64 (v 2), .int .u64 (v 3), .int .u64 (v 4), .int .u64 (v 5), .int .u64 (v 6)]

/-- The differences, modulo 2^64. -/
def df (u v : Nat → Int) (i : Nat) : Int := IntKind.u64.wrap (u i - v i)

/-- A block that nobody reads again. -/
def ob (v : Nat → Int) (t : TypeId) : Obj := .cells (sev v) t

theorem stats_any (v : Nat → Int) (w : World) : Calls Try.prog 6 #[.agg (sev v)] w fun e w' => e = .returned (.agg (sev v)) ∧ w' = (w.alloc (ob v 23)).alloc (ob v 26) := by
  unfold ob sev
  go_enter Try.func6, Try.ntmps6
  go_wp2
  exact bodyPost_ret (v := .agg (sev v)) (by simp [results, Try.results6, go_sem, sev]) rfl ⟨rfl, rfl⟩

theorem counts_any (v : Nat → Int) (w : World) : Calls Try.prog 5 #[.agg (sev v)] w fun e w' => e = .returned (.agg (sev v)) ∧ w' = (w.alloc (ob v 26)).alloc (ob v 23) := by
  unfold ob sev
  go_enter Try.func5, Try.ntmps5
  go_wp2
  exact bodyPost_ret (v := .agg (sev v)) (by simp [results, Try.results5, go_sem, sev]) rfl ⟨rfl, rfl⟩

theorem since_any (u v : Nat → Int) (w : World) : Calls Try.prog 7 #[.agg (sev u), .agg (sev v)] w fun e w' => e = .returned (.agg (sev (df u v))) ∧ w' = ((w.alloc (ob u 26)).alloc (ob v 26)).alloc (ob (df u v) 26) := by
  unfold ob sev
  go_enter Try.func7, Try.ntmps7
  go_wp2
  exact bodyPost_ret (v := .agg (sev (df u v))) (by simp [results, Try.results7, go_sem, sev, df]) rfl ⟨rfl, rfl⟩

end Go.Proofs.Qxb6628206a.Sv
