import Derived.Test.Qxb6628154aRows
import Derived.Test.Qxb6628154aFloat3
import Derived.WalkKit
import Derived.ProofKit
import Derived.OpenShut
import Derived.Below
import Derived.WalkSpells
import Derived.WalkLawsBesides
import Derived.Outline
import Derived.Deep.QuietTactic
import Derived.BigQuiet
import Derived.Laws.FloatArith
import Derived.Deep.Light
import Derived.Test.Qxb6628154aLaw1
import Derived.Test.Qxb6628154aPrice2
import Derived.Test.Qxb6628154aWalks2
namespace Go.Proofs.Qxb6628154a.Fl
open Go.ChangeShapes Go.WideShapes Go.ChangeAt Go.RowKit
attribute [local go_sem] run_store_float

/-- Behind the first call of zzUsage: three boxes. -/
theorem start3' {w w3 : World} {zc qc pc : Array Value} (hb : Below (((w.alloc (.cells zc 24)).alloc (.cells qc 26)).alloc (.cells pc 26)).heap.size (((w.alloc (.cells zc 24)).alloc (.cells qc 26)).alloc (.cells pc 26)) w3) :
    w3.heap[w.heap.size]? = some (.cells zc 24 (0, 0)) ∧ w3.heap[w.heap.size + 1]? = some (.cells qc 26 (0, 0)) ∧ w3.heap[w.heap.size + 2]? = some (.cells pc 26 (0, 0)) ∧ w.heap.size + 3 ≤ w3.heap.size ∧ Below w.heap.size w w3 := by
  have h1 : (((w.alloc (.cells zc 24)).alloc (.cells qc 26)).alloc (.cells pc 26)).heap[w.heap.size]? = some (.cells zc 24 (0, 0)) := by
    rw [Below.heap_alloc _ _ _ (by simp; omega), Below.heap_alloc _ _ _ (by simp)]; exact heap_alloc_new w _
  have h2 : (((w.alloc (.cells zc 24)).alloc (.cells qc 26)).alloc (.cells pc 26)).heap[w.heap.size + 1]? = some (.cells qc 26 (0, 0)) := by
    rw [Below.heap_alloc _ _ _ (by simp)]
    have := heap_alloc_new (w.alloc (.cells zc 24)) (.cells qc 26)
    simpa using this
  have h2' : (((w.alloc (.cells zc 24)).alloc (.cells qc 26)).alloc (.cells pc 26)).heap[w.heap.size + 2]? = some (.cells pc 26 (0, 0)) := by
    have := heap_alloc_new ((w.alloc (.cells zc 24)).alloc (.cells qc 26)) (.cells pc 26)
    simpa using this
  have h3 : (((w.alloc (.cells zc 24)).alloc (.cells qc 26)).alloc (.cells pc 26)).heap.size = w.heap.size + 3 := by simp
  have h4 : Below w.heap.size w (((w.alloc (.cells zc 24)).alloc (.cells qc 26)).alloc (.cells pc 26)) := (((Below.refl _ _).alloc (Nat.le_refl _) _).alloc (by simp) _).alloc (by simp; omega) _
  have hs := hb.size
  rw [h3] at hs hb
  exact ⟨carry hb (by omega) h1, carry hb (by omega) h2, carry hb (by omega) h2', hs, h4.trans (hb.mono (by omega))⟩

set_option maxRecDepth 20000 in
set_option maxHeartbeats 2000000 in
theorem law2_main (t0 t1 t2 t3 t4 : Int) (f0 f1 f2 f3 f4 q0 q1 q2 q3 p0 p1 p2 p3 : Nat) (w : World)
    (T0 : Hid (-9223372036854775808 ≤ t0 ∧ t0 ≤ 9223372036854775807)) (T1 : Hid (-9223372036854775808 ≤ t1 ∧ t1 ≤ 9223372036854775807)) (T2 : Hid (-9223372036854775808 ≤ t2 ∧ t2 ≤ 9223372036854775807)) (T3 : Hid (-9223372036854775808 ≤ t3 ∧ t3 ≤ 9223372036854775807))
    (B0 : Hid (p0 < 18446744073709551616)) (B1 : Hid (p1 < 18446744073709551616)) (B2 : Hid (p2 < 18446744073709551616)) (B3 : Hid (p3 < 18446744073709551616)) :
    Calls Try.prog 4 #[.agg (uCells t0 t1 t2 t3 t4 f0 f1 f2 f3 f4), .agg (pCells q0 q1 q2 q3), .agg (pCells p0 p1 p2 p3)] w fun e w' => e = .returned (.bool true) ∧ Below w.heap.size w w' := by
  obtain ⟨S, hS⟩ : ∃ S, wrap64 (wrap64 (wrap64 (t0 + t1) + t2) + t3) = S := ⟨_, rfl⟩
  have HSS := hid hS
  clear hS
  unfold uCells pCells
  go_enter Try.func4, Try.ntmps4
  go_wp2_with fail
  -- a := zzUsage(z)
  refine (usage_any t0 t1 t2 t3 t4 f0 f1 f2 f3 f4 _).mono ?_
  rintro e w3 ⟨rfl, hb3⟩
  obtain ⟨Z3, Q3, P3, hs3, BW3⟩ := start3' (zc := uCells t0 t1 t2 t3 t4 f0 f1 f2 f3 f4) (qc := pCells q0 q1 q2 q3) (pc := pCells p0 p1 p2 p3) hb3
  have hz3 : w.heap.size + 1 < w3.heap.size := by omega
  obtain ⟨m0, m1, m2, m3⟩ := cellsP Q3
  have HZ3 := hid Z3
  have HP3 := hid P3
  have HB3 := hid BW3
  clear Z3 P3 Q3 BW3 hb3
  go_wp2_with fail
  -- a.Price(q)
  refine (prices_any q0 q1 q2 q3 _).mono ?_
  rintro e w4 ⟨rfl, hb4⟩
  obtain ⟨A4, hs4, BW4⟩ := next4 (uc := uCells t0 t1 t2 t3 t4 f0 f1 f2 f3 f4) hb4
  have HZ4 := hid (carry BW4 (by omega) HZ3.out)
  have HP4 := hid (carry BW4 (by omega) HP3.out)
  have HB4 := hid (HB3.out.trans (BW4.mono (by omega)))
  have HA4 := hid A4
  clear A4 BW4 hb4 m0 m1 m2 m3 HZ3 HP3 HB3 hz3
  go_wp2_with fail
  refine (priced_any w3.heap.size t0 t1 t2 t3 t4 f0 f1 f2 f3 f4 q0 q1 q2 q3 w4 HA4.out).mono ?_
  rintro e w5 ⟨rfl, g0, g1, g2, g3, g4, hst, _⟩
  rw [HSS.out] at hst
  have hs5 := hst.size
  have HA5 := hid hst.at_
  have HZ5 := hid ((hst.block _ (by omega) (by omega)).trans HZ4.out)
  have HP5 := hid ((hst.block _ (by omega) (by omega)).trans HP4.out)
  have HB5 := hid (HB4.out.trans (hst.below (by omega)))
  clear hst HZ4 HP4 HB4 HA4
  obtain ⟨m0, m1, m2, m3⟩ := cellsP HP5.out
  go_wp2_with fail
  -- a.Price(p)
  refine (prices_any p0 p1 p2 p3 _).mono ?_
  rintro e w6 ⟨rfl, hb6⟩
  have hs6 := hb6.size
  have HZ6 := hid (carry hb6 (by omega) HZ5.out)
  have HP6 := hid (carry hb6 (by omega) HP5.out)
  have HA6 := hid (carry hb6 (by omega) HA5.out)
  have HB6 := hid (HB5.out.trans (hb6.mono (by omega)))
  clear hb6 m0 m1 m2 m3 HZ5 HP5 HB5 HA5
  go_wp2_with fail
  refine (priced_any w3.heap.size t0 t1 t2 t3 S g0 g1 g2 g3 g4 p0 p1 p2 p3 w6 HA6.out).mono ?_
  rintro e w7 ⟨rfl, a0, a1, a2, a3, a4, hst, ca0, ca1, ca2, ca3, sa⟩
  rw [HSS.out] at hst
  have hs7 := hst.size
  have HA7 := hid hst.at_
  have HZ7 := hid ((hst.block _ (by omega) (by omega)).trans HZ6.out)
  have HP7 := hid ((hst.block _ (by omega) (by omega)).trans HP6.out)
  have HB7 := hid (HB6.out.trans (hst.below (by omega)))
  have CA0 := hid ca0
  have CA1 := hid ca1
  have CA2 := hid ca2
  have CA3 := hid ca3
  have SA := hid sa
  clear hst HZ6 HP6 HB6 HA6 ca0 ca1 ca2 ca3 sa
  obtain ⟨u0, u1, u2, u3, u4, u5, u6, u7, u8, u9⟩ := cellsU HZ7.out
  go_wp2_with fail
  -- c := zzUsage(z)
  refine (usage_any t0 t1 t2 t3 t4 f0 f1 f2 f3 f4 _).mono ?_
  rintro e w8 ⟨rfl, hb8⟩
  have hs8 := hb8.size
  have HZ8 := hid (carry hb8 (by omega) HZ7.out)
  have HP8 := hid (carry hb8 (by omega) HP7.out)
  have HA8 := hid (carry hb8 (by omega) HA7.out)
  have HB8 := hid (HB7.out.trans (hb8.mono (by omega)))
  clear hb8 u0 u1 u2 u3 u4 u5 u6 u7 u8 u9 HZ7 HP7 HB7 HA7
  obtain ⟨m0, m1, m2, m3⟩ := cellsP HP8.out
  have hz8 : w.heap.size + 2 < w8.heap.size := by omega
  go_wp2_with fail
  -- c.Price(p)
  refine (prices_any p0 p1 p2 p3 _).mono ?_
  rintro e w9 ⟨rfl, hb9⟩
  obtain ⟨C9, hs9, BW9⟩ := next4 (uc := uCells t0 t1 t2 t3 t4 f0 f1 f2 f3 f4) hb9
  have HZ9 := hid (carry BW9 (by omega) HZ8.out)
  have HP9 := hid (carry BW9 (by omega) HP8.out)
  have HA9 := hid (carry BW9 (by omega) HA8.out)
  have HB9 := hid (HB8.out.trans (BW9.mono (by omega)))
  have HC9 := hid C9
  clear C9 BW9 hb9 m0 m1 m2 m3 HZ8 HP8 HB8 HA8 hz8
  go_wp2_with fail
  refine (priced_any w8.heap.size t0 t1 t2 t3 t4 f0 f1 f2 f3 f4 p0 p1 p2 p3 w9 HC9.out).mono ?_
  rintro e w10 ⟨rfl, c0, c1, c2, c3, c4, hst, cc0, cc1, cc2, cc3, sc⟩
  rw [HSS.out] at hst
  have hs10 := hst.size
  have HC10 := hid hst.at_
  have HZ10 := hid ((hst.block _ (by omega) (by omega)).trans HZ9.out)
  have HP10 := hid ((hst.block _ (by omega) (by omega)).trans HP9.out)
  have HA10 := hid ((hst.block _ (by omega) (by omega)).trans HA9.out)
  have HB10 := hid (HB9.out.trans (hst.below (by omega)))
  have CC0 := hid cc0
  have CC1 := hid cc1
  have CC2 := hid cc2
  have CC3 := hid cc3
  have SC := hid sc
  clear hst HZ9 HP9 HB9 HA9 HC9 cc0 cc1 cc2 cc3 sc
  obtain ⟨u0, u1, u2, u3, u4, u5, u6, u7, u8, u9⟩ := cellsU HZ10.out
  go_wp2_with fail
  -- b := zzUsage(f)
  refine (usage_any t0 t1 t2 t3 0 0 0 0 0 0 _).mono ?_
  rintro e w11 ⟨rfl, hb11⟩
  obtain ⟨_, hs11, BW11⟩ := next4 (uc := uCells t0 t1 t2 t3 0 0 0 0 0 0) hb11
  have HZ11 := hid (carry BW11 (by omega) HZ10.out)
  have HP11 := hid (carry BW11 (by omega) HP10.out)
  have HA11 := hid (carry BW11 (by omega) HA10.out)
  have HC11 := hid (carry BW11 (by omega) HC10.out)
  have HB11 := hid (HB10.out.trans (BW11.mono (by omega)))
  clear BW11 hb11 u0 u1 u2 u3 u4 u5 u6 u7 u8 u9 HZ10 HP10 HB10 HA10 HC10
  obtain ⟨m0, m1, m2, m3⟩ := cellsP HP11.out
  have hz11 : w.heap.size + 2 < w11.heap.size := by omega
  go_wp2_with fail
  -- b.Price(p)
  refine (prices_any p0 p1 p2 p3 _).mono ?_
  rintro e w12 ⟨rfl, hb12⟩
  obtain ⟨B12, hs12, BW12⟩ := next4 (uc := uCells t0 t1 t2 t3 0 0 0 0 0 0) hb12
  have HZ12 := hid (carry BW12 (by omega) HZ11.out)
  have HP12 := hid (carry BW12 (by omega) HP11.out)
  have HA12 := hid (carry BW12 (by omega) HA11.out)
  have HC12 := hid (carry BW12 (by omega) HC11.out)
  have HB12 := hid (HB11.out.trans (BW12.mono (by omega)))
  have HBB12 := hid B12
  clear B12 BW12 hb12 m0 m1 m2 m3 HZ11 HP11 HB11 HA11 HC11 hz11
  go_wp2_with fail
  refine (priced_any w11.heap.size t0 t1 t2 t3 0 0 0 0 0 0 p0 p1 p2 p3 w12 HBB12.out).mono ?_
  rintro e w13 ⟨rfl, b0, b1, b2, b3, b4, hst, cb0, cb1, cb2, cb3, sb⟩
  rw [HSS.out] at hst
  have hs13 := hst.size
  have HBB13 := hid hst.at_
  have HZ13 := hid ((hst.block _ (by omega) (by omega)).trans HZ12.out)
  have HP13 := hid ((hst.block _ (by omega) (by omega)).trans HP12.out)
  have HA13 := hid ((hst.block _ (by omega) (by omega)).trans HA12.out)
  have HC13 := hid ((hst.block _ (by omega) (by omega)).trans HC12.out)
  have HB13 := hid (HB12.out.trans (hst.below (by omega)))
  have sab0 := (CA0.out.sim cb0).same
  have sab1 := (CA1.out.sim cb1).same
  have sab2 := (CA2.out.sim cb2).same
  have sab3 := (CA3.out.sim cb3).same
  have sab4 := (SumRes.sim (CA0.out.sim cb0) (CA1.out.sim cb1) (CA2.out.sim cb2) (CA3.out.sim cb3) SA.out sb).same
  have scb0 := (CC0.out.sim cb0).same
  have scb1 := (CC1.out.sim cb1).same
  have scb2 := (CC2.out.sim cb2).same
  have scb3 := (CC3.out.sim cb3).same
  have scb4 := (SumRes.sim (CC0.out.sim cb0) (CC1.out.sim cb1) (CC2.out.sim cb2) (CC3.out.sim cb3) SC.out sb).same
  have HSA := hid (fun W => sameUsage t0 t1 t2 t3 S a0 a1 a2 a3 a4 b0 b1 b2 b3 b4 W sab0 sab1 sab2 sab3 sab4)
  have HSC := hid (fun W => sameUsage t0 t1 t2 t3 S c0 c1 c2 c3 c4 b0 b1 b2 b3 b4 W scb0 scb1 scb2 scb3 scb4)
  have G0 := hid (fun W => sign_any t0 p0 b0 W T0.out B0.out cb0)
  have G1 := hid (fun W => sign_any t1 p1 b1 W T1.out B1.out cb1)
  have G2 := hid (fun W => sign_any t2 p2 b2 W T2.out B2.out cb2)
  have G3 := hid (fun W => sign_any t3 p3 b3 W T3.out B3.out cb3)
  clear hst HZ12 HP12 HB12 HA12 HC12 HBB12 cb0 cb1 cb2 cb3 sb CA0 CA1 CA2 CA3 SA CC0 CC1 CC2 CC3 SC sab0 sab1 sab2 sab3 sab4 scb0 scb1 scb2 scb3 scb4 T0 T1 T2 T3 B0 B1 B2 B3
  obtain ⟨u0, u1, u2, u3, u4, u5, u6, u7, u8, u9⟩ := cellsU HA13.out
  obtain ⟨v0, v1, v2, v3, v4, v5, v6, v7, v8, v9⟩ := cellsU HBB13.out
  go_wp2_with fail
  refine (HSA.out _).mono ?_
  rintro e w14 ⟨rfl, hb14⟩
  have hs14 := hb14.size
  have HZ14 := hid (carry hb14 (by omega) HZ13.out)
  have HP14 := hid (carry hb14 (by omega) HP13.out)
  have HC14 := hid (carry hb14 (by omega) HC13.out)
  have HBB14 := hid (carry hb14 (by omega) HBB13.out)
  have HB14 := hid (HB13.out.trans (hb14.mono (by omega)))
  clear hb14 u0 u1 u2 u3 u4 u5 u6 u7 u8 u9 v0 v1 v2 v3 v4 v5 v6 v7 v8 v9 HZ13 HP13 HB13 HA13 HC13 HBB13 HSA
  obtain ⟨u0, u1, u2, u3, u4, u5, u6, u7, u8, u9⟩ := cellsU HC14.out
  obtain ⟨v0, v1, v2, v3, v4, v5, v6, v7, v8, v9⟩ := cellsU HBB14.out
  go_wp2_with fail
  refine (HSC.out _).mono ?_
  rintro e w15 ⟨rfl, hb15⟩
  have hs15 := hb15.size
  have HZ15 := hid (carry hb15 (by omega) HZ14.out)
  have HP15 := hid (carry hb15 (by omega) HP14.out)
  have HBB15 := hid (carry hb15 (by omega) HBB14.out)
  have HB15 := hid (HB14.out.trans (hb15.mono (by omega)))
  clear hb15 u0 u1 u2 u3 u4 u5 u6 u7 u8 u9 v0 v1 v2 v3 v4 v5 v6 v7 v8 v9 HZ14 HP14 HB14 HC14 HBB14 HSC
  obtain ⟨u0, u1, u2, u3, u4, u5, u6, u7, u8, u9⟩ := cellsU HZ15.out
  obtain ⟨v0, v1, v2, v3, v4, v5, v6, v7, v8, v9⟩ := cellsU HBB15.out
  obtain ⟨m0, m1, m2, m3⟩ := cellsP HP15.out
  have hS := HSS.out
  clear u4 u5 u6 u7 u8 u9 v0 v1 v2 v3 HZ15 HP15 HBB15 HSS
  go_wp2_with fail
  refine (G0.out _).mono ?_
  rintro e w' ⟨rfl, rfl⟩
  go_wp2_with fail
  refine (G1.out _).mono ?_
  rintro e w' ⟨rfl, rfl⟩
  go_wp2_with fail
  refine (G2.out _).mono ?_
  rintro e w' ⟨rfl, rfl⟩
  go_wp2_with fail
  refine (G3.out _).mono ?_
  rintro e w' ⟨rfl, rfl⟩
  go_wp2
  go_ret
  exact ⟨rfl, HB15.out⟩

end Go.Proofs.Qxb6628154a.Fl
