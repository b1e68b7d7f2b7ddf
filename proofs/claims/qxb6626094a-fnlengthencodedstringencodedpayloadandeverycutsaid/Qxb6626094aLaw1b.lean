import Derived.Test.Qxb6626094aRows
import Derived.Test.Qxb6626094aPlain
import Derived.WalkKit
import Derived.ProofKit
import Derived.OpenShut
import Derived.Below
import Derived.WalkSpells
import Derived.WalkLawsBesides
import Derived.Outline
import Derived.Deep.QuietTactic
import Derived.BigQuiet
import Derived.Laws.CopyOwn
import Derived.Test.Qxb6626094aLaw1
namespace Go.Proofs.Qxb6626094a.Les
open Go.ChangeShapes Go.WideShapes Go.ChangeAt Go.RowKit

/-- The model's and the reader's answer at a good buffer, with plain numbers. -/
theorem good_parts (g : Nat → Int) (hg : Bytes g) (n : Nat) (h : okB g n = true) :
    ∃ hh v : Nat, hl (g 0) = hh ∧ num g = (v : Int) ∧ hh + v ≤ n ∧ 0 < hh := by
  have hb := num_bd g hg
  simp only [okB, decide_eq_true_eq] at h
  exact ⟨hl (g 0), (num g).toNat, rfl, by omega, by omega, by omega⟩

theorem mod_yes' (n c : Nat) (b o : Nat) (g : Nat → Int) (hg : Bytes g) (w : World) (hn : n ≤ maxLen)
    (hc : ∀ i, i < n → w.cell? ⟨b, o + i, none⟩ = some (.int .u8 (g i))) (hh : okB g n = true) (h v : Nat) (e1 : hl (g 0) = h) (e2 : num g = (v : Int)) :
    Calls Try.prog 6 #[.slice (some ⟨b, o, none⟩) n c] w fun e w' => e = .returned (.tuple #[.int .i64 h, .int .i64 ((h : Int) + v), .bool true]) ∧ w = w' := by
  refine (mod_yes n c (some ⟨b, o, none⟩) b o g hg w hn (fun _ => rfl) hc hh).mono ?_
  rintro e w' ⟨rfl, rfl⟩
  rw [e1, e2]
  exact ⟨rfl, rfl⟩

theorem les_yes' (n c : Nat) (b o : Nat) (g : Nat → Int) (hg : Bytes g) (w : World) (hcn : n ≤ c) (hcm : c ≤ maxLen)
    (hc : ∀ i, i < n → w.cell? ⟨b, o + i, none⟩ = some (.int .u8 (g i))) (hh : okB g n = true) (h v : Nat) (e1 : hl (g 0) = h) (e2 : num g = (v : Int)) :
    Calls Try.prog 7 #[.slice (some ⟨b, o, none⟩) n c] w fun e w' => ∃ a, e = .returned (.tuple #[.slice (some a) v (c - h), .int .i64 ((h : Int) + v), .bool true]) ∧ Hid (0 < v → a = ⟨b, o + h, none⟩) ∧ w = w' := by
  refine (les_yes n c b o g hg w hcn hcm hc hh).mono ?_
  rintro e w' ⟨a, rfl, ha, rfl⟩
  rw [e1, e2] at ha ⊢
  exact ⟨a, rfl, ha, rfl⟩

theorem drew_below {B : Nat} {w w' : World} {q : Nat} (h : Below B w w') : Below B w (w'.drewN q) := ⟨h.os, h.tape, h.output, h.size, h.block⟩

/-- The cells of z ++ zt, laid down by two appends. -/
theorem cells_joined {w : World} {B G N : Nat} {z zt : List Int} (hN : z.length + zt.length = N) (h : w.ownsRow B 5 1 (.slice (some ⟨G, 0, none⟩) N N) N (z.map (Value.int .u8) ++ zt.map (Value.int .u8))) :
    ∀ i, i < N → w.cell? ⟨G, 0 + i, none⟩ = some (.int .u8 ((z ++ zt).getD i 0)) := by
  intro i hi
  have hi' : i < (z ++ zt).length := by simp; omega
  rw [Nat.zero_add, h.cellAt i (by omega), ← List.map_append, List.getElem?_map, List.getD_eq_getElem?_getD, List.getElem?_eq_getElem hi']
  rfl

theorem bytes_append {z zt : List Int} (h : Bytes (fun i => z.getD i 0)) (ht : Bytes (fun i => zt.getD i 0)) : Bytes (fun i => (z ++ zt).getD i 0) := by
  intro i
  by_cases hi : i < z.length
  · have := h i
    simpa [List.getD_eq_getElem?_getD, List.getElem?_append_left hi] using this
  · have := ht (i - z.length)
    simpa [List.getD_eq_getElem?_getD, List.getElem?_append_right (Nat.le_of_not_lt hi)] using this

theorem append_head {z zt : List Int} (i : Nat) (hi : i < z.length) : (z ++ zt).getD i 0 = z.getD i 0 := by
  simp [List.getD_eq_getElem?_getD, List.getElem?_append_left hi]

theorem copied_src {w2 w3 : World} {B n : Nat} {z : List Int} (hn : z.length = n) (hc : ∀ i, i < n → w2.cell? ⟨B, 0 + i, none⟩ = some (.int .u8 (z.getD i 0))) (hb : Below (B + 1) w2 w3) :
    ∀ ad, some (⟨B, 0, none⟩ : Addr) = some ad → ∀ j u, (z.map (Value.int .u8))[j]? = some u → w3.cell? (ad.add j) = some u := by
  rintro ad h j u hu
  obtain rfl := Option.some.inj h
  have hj : j < n := by
    have := (List.getElem?_eq_some_iff.1 hu).1
    simp at this
    omega
  rw [Addr.add_lit, hb.cell (p := ⟨B, 0 + j, none⟩) (Nat.lt_succ_self _), hc j hj, ← hu]
  simp [List.getElem?_eq_getElem (show j < z.length by omega), List.getD_eq_getElem?_getD]

set_option maxHeartbeats 1000000 in
theorem law1_yes_lt (x : Addr) (n c : Nat) (a1 : Option Addr) (m d : Nat) (z zt : List Int) (w : World) (hn : n ≤ 524288) (hm : m ≤ 524288) (hnz : z.length = n) (hmz : zt.length = m)
    (hg : Bytes (fun i => z.getD i 0)) (hgt : Bytes (fun i => zt.getD i 0))
    (hc : ∀ j v, (z.map (Value.int .u8))[j]? = some v → w.cell? (x.add j) = some v)
    (hnone : a1 = none → m = 0 ∧ d = 0)
    (hct : ∀ ad, a1 = some ad → ∀ j v, (zt.map (Value.int .u8))[j]? = some v → w.cell? (ad.add j) = some v)
    (hok : okB (fun i => z.getD i 0) n = true) (hh v : Nat) (eh : hl (z.getD 0 0) = hh) (ev : num (fun i => z.getD i 0) = (v : Int)) (hv : hh + v ≤ n) (hlt : ¬ n = hh) :
    Calls Try.prog 3 #[.slice (some x) n c, .slice a1 m d] w fun e w' => e = .returned (.bool true) ∧ Below w.heap.size w w' := by
  have h1 : (n : Int) ≤ 524288 := by omega
  have h2 : (m : Int) ≤ 524288 := by omega
  have HZ := hid (zz1_yes (some x) a1 n c m d w hn hm)
  have hne := fun (w : World) (a : Option Addr) (n c : Nat) => run_neq_slice_nil_any (P := Try.prog) w 22 5 a n c 0 0 Try.underlying22
  obtain ⟨i5, hi5, hz0, hz1, hz2⟩ := info_parts info5
  have HC := hid hc
  have HCT := hid hct
  have HG := hid hg
  have HGT := hid hgt
  have HO := hid hok
  have HN := hid hnz
  have HMZ := hid hmz
  have HNN := hid hnone
  have EH := hid eh
  have EV := hid ev
  clear hc hg hok hnz hct hgt hmz hnone eh ev
  go_enter Try.func3, Try.ntmps3
  go_wp2_with (first | (go_at_call 5; refine HZ.out.mono ?_; rintro e w' ⟨rfl, rfl⟩) | (at_make; refine wpList_make_full _ rfl _ _ 22 rfl w.heap.size 5 i5 (.int .u8 0) 1 Try.underlying22 hi5 hz0 hz1 .i64 .i64 _ _ n rfl rfl rfl rfl (by rw [hz2]; omega) (by unfold maxLen; omega) (Nat.le_refl _) ?_))
  intro w1 hown hgrow
  obtain ⟨cur, hcur, hlen⟩ := made_row hown
  have HB := hid (made_below hgrow)
  have HSRC : Hid (∀ j v, (z.map (Value.int .u8))[j]? = some v → w1.cell? (x.add j) = some v) := fun j v h => cell_later HB.out (HC.out j v h)
  have HLN := hid hlen
  clear hown hgrow hlen HZ
  go_wp2_with (refine wpList_copy_splice rfl (.tmp 31) (.tmp 32) 22 22 rfl 5 Try.underlying22 size5 _ _ _ _ _ _ rfl rfl w.heap.size 0 cur 5 hcur (z.map (Value.int .u8)) (by simp [HN.out]) (fun _ => ⟨rfl, x, rfl, HSRC.out⟩) (by simp [HN.out, HLN.out]) (ints_oneCell _ _) w.heap.size w HB.out (Nat.le_refl _) ?_)
  intro w2 HG2 HB2
  have HCC := hid (cells_copied w2 w.heap.size n cur z HLN.out HN.out HG2.out)
  have hsz2 : w.heap.size < w2.heap.size := (Array.getElem?_eq_some_iff.1 HG2.out).1
  have HM := hid (mod_yes' n n w.heap.size 0 (fun i => z.getD i 0) HG.out w2 (by unfold maxLen; omega) HCC.out HO.out hh v EH.out EV.out)
  have HL := hid (les_yes' n n w.heap.size 0 (fun i => z.getD i 0) HG.out w2 (Nat.le_refl _) (by unfold maxLen; omega) HCC.out HO.out hh v EH.out EV.out)
  have HBX := hid HB2
  clear HG2 HB2 hcur HSRC HB HC
  have hl1 : (z.map (Value.int .u8)).length = n := by simp [HN.out]
  go_wp2_with (first | (go_at_call 6; refine HM.out.mono ?_; rintro e w' ⟨rfl, rfl⟩) | (go_at_call 7; refine HL.out.mono ?_; rintro e w' ⟨a, rfl, HA, rfl⟩))
  refine (same_any v _ _ _ _ w.heap.size hh w.heap.size hh (fun i => z.getD (hh + i) 0) _ (by unfold maxLen; omega) (fun hv0 => by rw [HA.out hv0]; simp) (fun hv0 => by first | rfl | omega) (fun i hi => by have := HCC.out (hh + i) (by omega); simpa using this) (fun i hi => by have := HCC.out (hh + i) (by omega); simpa using this)).mono ?_
  rintro e w' ⟨rfl, q, rfl⟩
  clear HM HL
  have E0 : Hid (((n : Int) + m) = ((n + m : Nat) : Int)) := by show _ = _; omega
  go_wp2_with (at_make; refine wpList_make_own _ rfl _ _ 22 rfl (w.heap.size + 1) 5 i5 (.int .u8 0) 1 Try.underlying22 hi5 hz0 hz1 .i64 .i64 _ (n + m) rfl rfl E0.out (by rw [hz2]; omega) (by unfold maxLen; omega) (by simp; omega) ?_)
  intro w3 hown3 hgrow3
  have hown3' : w3.ownsRow (w.heap.size + 1) 5 1 (.slice (some ⟨w2.heap.size, 0, none⟩) 0 (n + m)) 0 [] := hown3
  have HB3 := hid (Below.grown (drew_below (q := q) (Below.refl (w.heap.size + 1) w2)) hgrow3 (by simp; omega) (fun k h => by cases h))
  have HBW3 := hid (HBX.out.trans (HB3.out.mono (Nat.le_succ _)))
  have HS3 : Hid (∀ ad, some (⟨w.heap.size, 0, none⟩ : Addr) = some ad → ∀ j u, (z.map (Value.int .u8))[j]? = some u → w3.cell? (ad.add j) = some u) := copied_src HN.out HCC.out HB3.out
  have hsz3 : w2.heap.size < w3.heap.size := (hown3'.lt _ rfl).2
  clear hown3 hgrow3
  go_wp2_with (at_builtin; refine wpList_append_fits_any _ rfl (.tmp 76) (.tmp 77) 22 rfl (w.heap.size + 1) 5 i5 1 Try.underlying22 hi5 hz1 w2.heap.size 0 (n + m) [] rfl hown3' _ n n (z.map (Value.int .u8)) rfl (by simp [HN.out]) (fun h => by cases h) HS3.out (ints_oneCell _ _) (by omega) ?_)
  intro w4 hown4 hgrow4
  try simp only [Nat.zero_add, List.nil_append] at hown4
  have HB4 := hid (Below.grown HB3.out hgrow4 (by omega) (fun k h => by cases h; omega))
  have HBW4 := hid (HBX.out.trans (HB4.out.mono (Nat.le_succ _)))
  have hsz4 : w2.heap.size < w4.heap.size := (hown4.lt _ rfl).2
  have HS4 : Hid (∀ ad, a1 = some ad → ∀ j u, (zt.map (Value.int .u8))[j]? = some u → w4.cell? (ad.add j) = some u) := fun ad h j u hu => cell_later HBW4.out (HCT.out ad h j u hu)
  clear hown3' hgrow4 HS3 HB3 HBW3
  go_wp2_with (at_builtin; refine wpList_append_fits_any _ rfl (.tmp 79) (.tmp 80) 22 rfl (w.heap.size + 1) 5 i5 1 Try.underlying22 hi5 hz1 w2.heap.size n (n + m) (z.map (Value.int .u8)) rfl hown4 _ m d (zt.map (Value.int .u8)) rfl (by simp [HMZ.out]) HNN.out HS4.out (ints_oneCell _ _) (by omega) ?_)
  intro w5 hown5 hgrow5
  have HB5 := hid (Below.grown HB4.out hgrow5 (by omega) (fun k h => by cases h; omega))
  have HBW5 := hid (HBX.out.trans (HB5.out.mono (Nat.le_succ _)))
  have HJ := hid (cells_joined (by rw [HN.out, HMZ.out]) hown5)
  obtain ⟨ok2, eh2, ev2⟩ := okB_longer (fun i => z.getD i 0) (fun i => (z ++ zt).getD i 0) n (n + m) HO.out (fun i hi => append_head i (by rw [HN.out]; exact hi)) (by omega)
  have HL2 := hid (les_yes' (n + m) (n + m) w2.heap.size 0 (fun i => (z ++ zt).getD i 0) (bytes_append HG.out HGT.out) w5 (Nat.le_refl _) (by unfold maxLen; omega) HJ.out ok2 hh v (eh2.trans EH.out) (ev2.trans EV.out))
  have HCC5 : Hid (∀ i, i < n → w5.cell? ⟨w.heap.size, 0 + i, none⟩ = some (.int .u8 (z.getD i 0))) := fun i hi => (HB5.out.cell (p := ⟨w.heap.size, 0 + i, none⟩) (Nat.lt_succ_self _)).trans (HCC.out i hi)
  have HJ5 : Hid (∀ i, i < n → w5.cell? ⟨w2.heap.size, 0 + i, none⟩ = some (.int .u8 (z.getD i 0))) := fun i hi => by rw [HJ.out i (by omega), append_head i (by rw [HN.out]; exact hi)]
  clear hown4 hown5 hgrow5 HS4 HB4 HBW4 ok2 eh2 ev2 HCT HNN HG HGT HO HJ EH EV
  go_wp2_with (go_at_call 7; refine HL2.out.mono ?_; rintro e w' ⟨a2, rfl, HA2, rfl⟩)
  refine (same_any v _ _ _ _ w2.heap.size hh w.heap.size hh (fun i => z.getD (hh + i) 0) _ (by unfold maxLen; omega) (fun hv0 => by rw [HA2.out hv0]; simp) (fun hv0 => by rw [HA.out hv0]; simp) (fun i hi => by have := HJ5.out (hh + i) (by omega); simpa using this) (fun i hi => by have := HCC5.out (hh + i) (by omega); simpa using this)).mono ?_
  rintro e w' ⟨rfl, q2, rfl⟩
  go_wp2
  go_ret
  exact ⟨rfl, drew_below HBW5.out⟩

set_option maxHeartbeats 1000000 in
theorem law1_yes_eq (x : Addr) (n c : Nat) (a1 : Option Addr) (m d : Nat) (z zt : List Int) (w : World) (hn : n ≤ 524288) (hm : m ≤ 524288) (hnz : z.length = n) (hmz : zt.length = m)
    (hg : Bytes (fun i => z.getD i 0)) (hgt : Bytes (fun i => zt.getD i 0))
    (hc : ∀ j v, (z.map (Value.int .u8))[j]? = some v → w.cell? (x.add j) = some v)
    (hnone : a1 = none → m = 0 ∧ d = 0)
    (hct : ∀ ad, a1 = some ad → ∀ j v, (zt.map (Value.int .u8))[j]? = some v → w.cell? (ad.add j) = some v)
    (hok : okB (fun i => z.getD i 0) n = true) (eh : hl (z.getD 0 0) = n) (ev : num (fun i => z.getD i 0) = ((0 : Nat) : Int)) :
    Calls Try.prog 3 #[.slice (some x) n c, .slice a1 m d] w fun e w' => e = .returned (.bool true) ∧ Below w.heap.size w w' := by
  have h1 : (n : Int) ≤ 524288 := by omega
  have h2 : (m : Int) ≤ 524288 := by omega
  have HZ := hid (zz1_yes (some x) a1 n c m d w hn hm)
  have hne := fun (w : World) (a : Option Addr) (n c : Nat) => run_neq_slice_nil_any (P := Try.prog) w 22 5 a n c 0 0 Try.underlying22
  obtain ⟨i5, hi5, hz0, hz1, hz2⟩ := info_parts info5
  have HC := hid hc
  have HCT := hid hct
  have HG := hid hg
  have HGT := hid hgt
  have HO := hid hok
  have HN := hid hnz
  have HMZ := hid hmz
  have HNN := hid hnone
  have EH := hid eh
  have EV := hid ev
  clear hc hg hok hnz hct hgt hmz hnone eh ev
  go_enter Try.func3, Try.ntmps3
  go_wp2_with (first | (go_at_call 5; refine HZ.out.mono ?_; rintro e w' ⟨rfl, rfl⟩) | (at_make; refine wpList_make_full _ rfl _ _ 22 rfl w.heap.size 5 i5 (.int .u8 0) 1 Try.underlying22 hi5 hz0 hz1 .i64 .i64 _ _ n rfl rfl rfl rfl (by rw [hz2]; omega) (by unfold maxLen; omega) (Nat.le_refl _) ?_))
  intro w1 hown hgrow
  obtain ⟨cur, hcur, hlen⟩ := made_row hown
  have HB := hid (made_below hgrow)
  have HSRC : Hid (∀ j v, (z.map (Value.int .u8))[j]? = some v → w1.cell? (x.add j) = some v) := fun j v h => cell_later HB.out (HC.out j v h)
  have HLN := hid hlen
  clear hown hgrow hlen HZ
  go_wp2_with (refine wpList_copy_splice rfl (.tmp 31) (.tmp 32) 22 22 rfl 5 Try.underlying22 size5 _ _ _ _ _ _ rfl rfl w.heap.size 0 cur 5 hcur (z.map (Value.int .u8)) (by simp [HN.out]) (fun _ => ⟨rfl, x, rfl, HSRC.out⟩) (by simp [HN.out, HLN.out]) (ints_oneCell _ _) w.heap.size w HB.out (Nat.le_refl _) ?_)
  intro w2 HG2 HB2
  have HCC := hid (cells_copied w2 w.heap.size n cur z HLN.out HN.out HG2.out)
  have hsz2 : w.heap.size < w2.heap.size := (Array.getElem?_eq_some_iff.1 HG2.out).1
  have HM := hid (mod_yes' n n w.heap.size 0 (fun i => z.getD i 0) HG.out w2 (by unfold maxLen; omega) HCC.out HO.out n 0 EH.out EV.out)
  have HL := hid (les_yes' n n w.heap.size 0 (fun i => z.getD i 0) HG.out w2 (Nat.le_refl _) (by unfold maxLen; omega) HCC.out HO.out n 0 EH.out EV.out)
  have HBX := hid HB2
  clear HG2 HB2 hcur HSRC HB HC
  have hl1 : (z.map (Value.int .u8)).length = n := by simp [HN.out]
  go_wp2_with (first | (go_at_call 6; refine HM.out.mono ?_; rintro e w' ⟨rfl, rfl⟩) | (go_at_call 7; refine HL.out.mono ?_; rintro e w' ⟨a, rfl, HA, rfl⟩))
  refine (same_any 0 _ _ _ _ w.heap.size n w.heap.size n (fun i => z.getD (n + i) 0) _ (by unfold maxLen; omega) (fun hv0 => by rw [HA.out hv0]; simp) (fun hv0 => by first | rfl | omega) (fun i hi => by have := HCC.out (n + i) (by omega); simpa using this) (fun i hi => by have := HCC.out (n + i) (by omega); simpa using this)).mono ?_
  rintro e w' ⟨rfl, q, rfl⟩
  clear HM HL
  have E0 : Hid (((n : Int) + m) = ((n + m : Nat) : Int)) := by show _ = _; omega
  go_wp2_with (at_make; refine wpList_make_own _ rfl _ _ 22 rfl (w.heap.size + 1) 5 i5 (.int .u8 0) 1 Try.underlying22 hi5 hz0 hz1 .i64 .i64 _ (n + m) rfl rfl E0.out (by rw [hz2]; omega) (by unfold maxLen; omega) (by simp; omega) ?_)
  intro w3 hown3 hgrow3
  have hown3' : w3.ownsRow (w.heap.size + 1) 5 1 (.slice (some ⟨w2.heap.size, 0, none⟩) 0 (n + m)) 0 [] := hown3
  have HB3 := hid (Below.grown (drew_below (q := q) (Below.refl (w.heap.size + 1) w2)) hgrow3 (by simp; omega) (fun k h => by cases h))
  have HBW3 := hid (HBX.out.trans (HB3.out.mono (Nat.le_succ _)))
  have HS3 : Hid (∀ ad, some (⟨w.heap.size, 0, none⟩ : Addr) = some ad → ∀ j u, (z.map (Value.int .u8))[j]? = some u → w3.cell? (ad.add j) = some u) := copied_src HN.out HCC.out HB3.out
  have hsz3 : w2.heap.size < w3.heap.size := (hown3'.lt _ rfl).2
  clear hown3 hgrow3
  go_wp2_with (at_builtin; refine wpList_append_fits_any _ rfl (.tmp 76) (.tmp 77) 22 rfl (w.heap.size + 1) 5 i5 1 Try.underlying22 hi5 hz1 w2.heap.size 0 (n + m) [] rfl hown3' _ n n (z.map (Value.int .u8)) rfl (by simp [HN.out]) (fun h => by cases h) HS3.out (ints_oneCell _ _) (by omega) ?_)
  intro w4 hown4 hgrow4
  try simp only [Nat.zero_add, List.nil_append] at hown4
  have HB4 := hid (Below.grown HB3.out hgrow4 (by omega) (fun k h => by cases h; omega))
  have HBW4 := hid (HBX.out.trans (HB4.out.mono (Nat.le_succ _)))
  have hsz4 : w2.heap.size < w4.heap.size := (hown4.lt _ rfl).2
  have HS4 : Hid (∀ ad, a1 = some ad → ∀ j u, (zt.map (Value.int .u8))[j]? = some u → w4.cell? (ad.add j) = some u) := fun ad h j u hu => cell_later HBW4.out (HCT.out ad h j u hu)
  clear hown3' hgrow4 HS3 HB3 HBW3
  go_wp2_with (at_builtin; refine wpList_append_fits_any _ rfl (.tmp 79) (.tmp 80) 22 rfl (w.heap.size + 1) 5 i5 1 Try.underlying22 hi5 hz1 w2.heap.size n (n + m) (z.map (Value.int .u8)) rfl hown4 _ m d (zt.map (Value.int .u8)) rfl (by simp [HMZ.out]) HNN.out HS4.out (ints_oneCell _ _) (by omega) ?_)
  intro w5 hown5 hgrow5
  have HB5 := hid (Below.grown HB4.out hgrow5 (by omega) (fun k h => by cases h; omega))
  have HBW5 := hid (HBX.out.trans (HB5.out.mono (Nat.le_succ _)))
  have HJ := hid (cells_joined (by rw [HN.out, HMZ.out]) hown5)
  obtain ⟨ok2, eh2, ev2⟩ := okB_longer (fun i => z.getD i 0) (fun i => (z ++ zt).getD i 0) n (n + m) HO.out (fun i hi => append_head i (by rw [HN.out]; exact hi)) (by omega)
  have HL2 := hid (les_yes' (n + m) (n + m) w2.heap.size 0 (fun i => (z ++ zt).getD i 0) (bytes_append HG.out HGT.out) w5 (Nat.le_refl _) (by unfold maxLen; omega) HJ.out ok2 n 0 (eh2.trans EH.out) (ev2.trans EV.out))
  have HCC5 : Hid (∀ i, i < n → w5.cell? ⟨w.heap.size, 0 + i, none⟩ = some (.int .u8 (z.getD i 0))) := fun i hi => (HB5.out.cell (p := ⟨w.heap.size, 0 + i, none⟩) (Nat.lt_succ_self _)).trans (HCC.out i hi)
  have HJ5 : Hid (∀ i, i < n → w5.cell? ⟨w2.heap.size, 0 + i, none⟩ = some (.int .u8 (z.getD i 0))) := fun i hi => by rw [HJ.out i (by omega), append_head i (by rw [HN.out]; exact hi)]
  clear hown4 hown5 hgrow5 HS4 HB4 HBW4 ok2 eh2 ev2 HCT HNN HG HGT HO HJ EH EV
  go_wp2_with (go_at_call 7; refine HL2.out.mono ?_; rintro e w' ⟨a2, rfl, HA2, rfl⟩)
  refine (same_any 0 _ _ _ _ w2.heap.size n w.heap.size n (fun i => z.getD (n + i) 0) _ (by unfold maxLen; omega) (fun hv0 => by rw [HA2.out hv0]; simp) (fun hv0 => by rw [HA.out hv0]; simp) (fun i hi => by have := HJ5.out (n + i) (by omega); simpa using this) (fun i hi => by have := HCC5.out (n + i) (by omega); simpa using this)).mono ?_
  rintro e w' ⟨rfl, q2, rfl⟩
  go_wp2
  go_ret
  exact ⟨rfl, drew_below HBW5.out⟩


theorem law1_yes (x : Addr) (n c : Nat) (a1 : Option Addr) (m d : Nat) (z zt : List Int) (w : World) (hn : n ≤ 524288) (hm : m ≤ 524288) (hnz : z.length = n) (hmz : zt.length = m)
    (hg : Bytes (fun i => z.getD i 0)) (hgt : Bytes (fun i => zt.getD i 0))
    (hc : ∀ j v, (z.map (Value.int .u8))[j]? = some v → w.cell? (x.add j) = some v)
    (hnone : a1 = none → m = 0 ∧ d = 0)
    (hct : ∀ ad, a1 = some ad → ∀ j v, (zt.map (Value.int .u8))[j]? = some v → w.cell? (ad.add j) = some v)
    (hok : okB (fun i => z.getD i 0) n = true) :
    Calls Try.prog 3 #[.slice (some x) n c, .slice a1 m d] w fun e w' => e = .returned (.bool true) ∧ Below w.heap.size w w' := by
  obtain ⟨hh, v, eh, ev, hv, hpos⟩ := good_parts (fun i => z.getD i 0) hg n hok
  by_cases hlt : n = hh
  · subst hlt
    obtain rfl : v = 0 := by omega
    exact law1_yes_eq x n c a1 m d z zt w hn hm hnz hmz hg hgt hc hnone hct hok eh ev
  · exact law1_yes_lt x n c a1 m d z zt w hn hm hnz hmz hg hgt hc hnone hct hok hh v eh ev hv hlt

end Go.Proofs.Qxb6626094a.Les
