import Derived.Test.Qxb6626094aRows
import Derived.Test.Qxb6626094aPlain
import Derived.WalkKit
import Derived.ProofKit
import Derived.OpenShut
import Derived.Below
import Derived.WalkSpells
import Derived.WalkLawsBesides
import Derived.Outline
import Derived.Deep.QuietTactic
import Derived.BigQuiet
import Derived.Test.Qxb6626094aLaw1b
import Derived.Test.Qxb6626094aHead
namespace Go.Proofs.Qxb6626094a.Les
open Go.ChangeShapes Go.WideShapes Go.ChangeAt Go.RowKit

/-! ### Plain: a header, the payload that it announces, a tail -/
theorem okB_of {g : Nat → Int} {hh v : Nat} (e1 : hl (g 0) = hh) (e2 : num g = (v : Int)) (h0 : hh ≠ 0) (k : Nat) : okB g k = decide (hh + v ≤ k) := by
  simp only [okB, e1, e2]
  rw [Bool.eq_iff_iff]
  simp only [decide_eq_true_eq]
  omega

theorem head_joined {H z zt : List Int} {hh v : Nat} (hH : Head H (v : Int)) (hl1 : H.length = hh) (hz : Bytes (fun i => z.getD i 0)) (ht : Bytes (fun i => zt.getD i 0)) :
    hl (((H ++ z) ++ zt).getD 0 0) = hh ∧ num (fun i => ((H ++ z) ++ zt).getD i 0) = (v : Int) ∧ hh ≠ 0 ∧ Bytes (fun i => ((H ++ z) ++ zt).getD i 0) := by
  obtain ⟨a, b, c, d⟩ := hH
  have hpos : 0 < H.length := by omega
  obtain ⟨e1, e2⟩ := num_congr (fun i => H.getD i 0) (fun i => ((H ++ z) ++ zt).getD i 0) b (fun i hi => by
    show ((H ++ z) ++ zt).getD i 0 = H.getD i 0
    have hi' : i < H.length := by rw [← a]; exact hi
    rw [append_head i (by simp; omega), append_head i hi'])
  exact ⟨by rw [← hl1, ← a]; exact e1, e2.trans c, by omega, bytes_append (bytes_append d hz) ht⟩

theorem joined_mid {H z zt : List Int} (i : Nat) (hi : i < z.length) : ((H ++ z) ++ zt).getD (H.length + i) 0 = z.getD i 0 := by
  rw [append_head _ (by simp; omega)]
  simp [List.getD_eq_getElem?_getD, List.getElem?_append_right]

/-- The cells of H ++ z ++ zt, laid down by three appends. -/
theorem cells_joined3 {w : World} {B G N : Nat} {H z zt : List Int} (hN : H.length + z.length + zt.length = N) (h : w.ownsRow B 5 1 (.slice (some ⟨G, 0, none⟩) N N) N (H.map (Value.int .u8) ++ (z.map (Value.int .u8) ++ zt.map (Value.int .u8)))) :
    ∀ i, i < N → w.cell? ⟨G, 0 + i, none⟩ = some (.int .u8 (((H ++ z) ++ zt).getD i 0)) := by
  rw [← List.append_assoc, ← List.map_append] at h
  exact cells_joined (by simp; omega) h

/-! ### zzBytes_FnLengthEncodedStringEncodedPayloadAndEveryCut -/
theorem zz2_yes (f k : Int) (a0 a1 : Option Addr) (n c m d : Nat) (w : World) (hn : n ≤ 524288) (hm : m ≤ 524288) :
    Calls Try.prog 9 #[.int .u8 f, .slice a0 n c, .slice a1 m d, .int .i64 k] w fun e w' => e = .returned (.bool true) ∧ w = w' := by
  have h1 : (n : Int) ≤ 524288 := by omega
  have h2 : (m : Int) ≤ 524288 := by omega
  clear hn hm
  go_enter Try.func9, Try.ntmps9
  go_wp2
  go_ret
  exact ⟨rfl, rfl⟩

theorem law2_far (f k : Int) (a0 a1 : Option Addr) (n c m d : Nat) (w : World) (hn : n ≤ maxLen) (hm : m ≤ maxLen) (h : 524288 < n ∨ 524288 < m) :
    Calls Try.prog 4 #[.int .u8 f, .slice a0 n c, .slice a1 m d, .int .i64 k] w fun e w' => e = .returned (.bool true) ∧ w = w' := by
  unfold maxLen at hn hm
  rcases h with h | h
  · have h1 : (524288 : Int) < n := by omega
    clear h
    go_enter Try.func4, Try.ntmps4
    go_wp2
    all_goals
      go_ret
      exact ⟨rfl, rfl⟩
  · have h1 : (524288 : Int) < m := by omega
    clear h
    go_enter Try.func4, Try.ntmps4
    go_wp2
    all_goals
      go_ret
      exact ⟨rfl, rfl⟩

/-- lesHeader, for the walk of the law. -/
theorem head_row (f : Int) (n : Nat) (w : World) (f0 : 0 ≤ f) (f1 : f ≤ 255) (h1 : n ≤ 524288) :
    Calls Try.prog 10 #[.int .u8 f, .int .i64 (n : Int)] w fun e w' => ∃ (hh : Nat) (H : List Int), e = .returned (.slice (some ⟨w.heap.size, 0, none⟩) hh hh) ∧ Hid (H.length = hh) ∧ Hid (Head H (n : Int)) ∧
      Hid (Below w.heap.size w w') ∧ w.heap.size < w'.heap.size ∧ hh ≤ 9 ∧
      Hid (∀ ad, some (⟨w.heap.size, 0, none⟩ : Addr) = some ad → ∀ j u, (H.map (Value.int .u8))[j]? = some u → w'.cell? (ad.add j) = some u) := by
  refine (head_any f n w f0 f1 (by omega) (by omega)).mono ?_
  rintro e w' ⟨H, rfl, hH, rfl⟩
  refine ⟨H.length, H, rfl, rfl, hH, (Below.refl _ _).alloc (Nat.le_refl _) _, by simp, by rw [← hH.1]; exact hl_le _, ?_⟩
  rintro ad h j u hu
  obtain rfl := Option.some.inj h
  rw [Addr.add_lit, Nat.zero_add]
  simpa using hu

theorem moved_src {w1 w3 : World} {B : Nat} {H : List Int} (hc : ∀ ad, some (⟨B, 0, none⟩ : Addr) = some ad → ∀ j u, (H.map (Value.int .u8))[j]? = some u → w1.cell? (ad.add j) = some u) (hb : Below (B + 1) w1 w3) :
    ∀ ad, some (⟨B, 0, none⟩ : Addr) = some ad → ∀ j u, (H.map (Value.int .u8))[j]? = some u → w3.cell? (ad.add j) = some u := by
  rintro ad h j u hu
  obtain rfl := Option.some.inj h
  have := hc _ rfl j u hu
  rw [Addr.add_lit] at this ⊢
  exact (hb.cell (p := ⟨B, 0 + j, none⟩) (Nat.lt_succ_self _)).trans this

set_option maxHeartbeats 1000000 in
theorem law2_neg (f : Int) (k : Int) (hk : k < 0) (a0 a1 : Option Addr) (b o n c m d : Nat) (z zt : List Int) (w : World) (f0 : 0 ≤ f) (f1 : f ≤ 255) (hn : n ≤ 524288) (hm : m ≤ 524288) (hnz : z.length = n) (hmz : zt.length = m)
    (hg : Bytes (fun i => z.getD i 0)) (hgt : Bytes (fun i => zt.getD i 0))
    (hp0 : 0 < n → a0 = some ⟨b, o, none⟩) (hc0 : ∀ i, i < n → w.cell? ⟨b, o + i, none⟩ = some (.int .u8 (z.getD i 0)))
    (hnone0 : a0 = none → n = 0 ∧ c = 0) (hct0 : ∀ ad, a0 = some ad → ∀ j v, (z.map (Value.int .u8))[j]? = some v → w.cell? (ad.add j) = some v)
    (hnone : a1 = none → m = 0 ∧ d = 0) (hct : ∀ ad, a1 = some ad → ∀ j v, (zt.map (Value.int .u8))[j]? = some v → w.cell? (ad.add j) = some v) :
    Calls Try.prog 4 #[.int .u8 f, .slice a0 n c, .slice a1 m d, .int .i64 k] w fun e w' => e = .returned (.bool true) ∧ Below w.heap.size w w' := by
  have h1 : (n : Int) ≤ 524288 := by omega
  have h2 : (m : Int) ≤ 524288 := by omega
  have HZ := hid (zz2_yes f k a0 a1 n c m d w hn hm)
  have HH := hid (head_row f n w f0 f1 hn)
  have heq := fun (w : World) (a : Option Addr) (n c : Nat) => Lib.run_eql_slice_nil (P := Try.prog) w 22 5 a n c 0 0 Try.underlying22
  obtain ⟨i5, hi5, hz0, hz1, hz2⟩ := info_parts info5
  have HP0 := hid hp0
  have HC0 := hid hc0
  have HN0 := hid hnone0
  have HCT0 := hid hct0
  have HCT := hid hct
  have HG := hid hg
  have HGT := hid hgt
  have HN := hid hnz
  have HMZ := hid hmz
  have HNN := hid hnone
  clear hg hnz hct hgt hmz hnone hp0 hc0 hnone0 hct0 f0 f1
  go_enter Try.func4, Try.ntmps4
  go_wp2_with (first | (go_at_call 9; refine HZ.out.mono ?_; rintro e w' ⟨rfl, rfl⟩) | (go_at_call 10; refine HH.out.mono ?_; rintro e w1 ⟨hh, H, rfl, HHL, HHD, HBX, hsz1, hh9, HHC⟩) | (at_make; refine wpList_make_own _ rfl _ _ 22 rfl (w.heap.size + 1) 5 i5 (.int .u8 0) 1 Try.underlying22 hi5 hz0 hz1 .i64 .i64 _ (hh + n + m) rfl rfl (by omega) (by rw [hz2]; omega) (by unfold maxLen; omega) (by omega) ?_))
  intro w3 hown3 hgrow3
  have HB3 := hid (Below.grown (Below.refl (w.heap.size + 1) w1) hgrow3 (by omega) (fun k h => by cases h))
  have HS3 : Hid (∀ ad, some (⟨w.heap.size, 0, none⟩ : Addr) = some ad → ∀ j u, (H.map (Value.int .u8))[j]? = some u → w3.cell? (ad.add j) = some u) := moved_src HHC.out HB3.out
  have hsz3 : w1.heap.size < w3.heap.size := (hown3.lt _ rfl).2
  have HO3 := hid hown3
  clear hgrow3 HZ HH hown3
  go_wp2_with (at_builtin; refine wpList_append_fits_any _ rfl (.tmp 43) (.tmp 44) 22 rfl (w.heap.size + 1) 5 i5 1 Try.underlying22 hi5 hz1 w1.heap.size 0 (hh + n + m) [] rfl HO3.out _ hh hh (H.map (Value.int .u8)) rfl (by simp [HHL.out]) (fun h => by cases h) HS3.out (ints_oneCell _ _) (by omega) ?_)
  intro w4 hown4 hgrow4
  try simp only [Nat.zero_add, List.nil_append] at hown4
  have HB4 := hid (Below.grown HB3.out hgrow4 (by omega) (fun k h => by cases h; omega))
  have HBW4 := hid (HBX.out.trans (HB4.out.mono (Nat.le_succ _)))
  have hsz4 : w1.heap.size < w4.heap.size := (hown4.lt _ rfl).2
  have HS4 : Hid (∀ ad, a0 = some ad → ∀ j u, (z.map (Value.int .u8))[j]? = some u → w4.cell? (ad.add j) = some u) := fun ad h j u hu => cell_later HBW4.out (HCT0.out ad h j u hu)
  have HO4 := hid hown4
  clear hown4 hgrow4 HS3 HB3 HO3
  go_wp2_with (at_builtin; refine wpList_append_fits_any _ rfl (.tmp 46) (.tmp 47) 22 rfl (w.heap.size + 1) 5 i5 1 Try.underlying22 hi5 hz1 w1.heap.size hh (hh + n + m) (H.map (Value.int .u8)) rfl HO4.out _ n c (z.map (Value.int .u8)) rfl (by simp [HN.out]) HN0.out HS4.out (ints_oneCell _ _) (by omega) ?_)
  intro w5 hown5 hgrow5
  have HB5 := hid (Below.grown HB4.out hgrow5 (by omega) (fun k h => by cases h; omega))
  have HBW5 := hid (HBX.out.trans (HB5.out.mono (Nat.le_succ _)))
  have hsz5 : w1.heap.size < w5.heap.size := (hown5.lt _ rfl).2
  have HS5 : Hid (∀ ad, a1 = some ad → ∀ j u, (zt.map (Value.int .u8))[j]? = some u → w5.cell? (ad.add j) = some u) := fun ad h j u hu => cell_later HBW5.out (HCT.out ad h j u hu)
  have HO5 := hid hown5
  clear hown5 hgrow5 HS4 HB4 HBW4 HO4
  go_wp2_with (at_builtin; refine wpList_append_fits_any _ rfl (.tmp 49) (.tmp 50) 22 rfl (w.heap.size + 1) 5 i5 1 Try.underlying22 hi5 hz1 w1.heap.size (hh + n) (hh + n + m) (H.map (Value.int .u8) ++ z.map (Value.int .u8)) rfl HO5.out _ m d (zt.map (Value.int .u8)) rfl (by simp [HMZ.out]) HNN.out HS5.out (ints_oneCell _ _) (by omega) ?_)
  intro w6 hown6 hgrow6
  have HB6 := hid (Below.grown HB5.out hgrow6 (by omega) (fun k h => by cases h; omega))
  have HBW6 := hid (HBX.out.trans (HB6.out.mono (Nat.le_succ _)))
  have HJ := hid (cells_joined3 (H := H) (z := z) (zt := zt) (N := hh + n + m) (by rw [HN.out, HMZ.out, HHL.out]) hown6)
  obtain ⟨e1, e2, e3, e4⟩ := head_joined HHD.out HHL.out HG.out HGT.out
  have E1 := hid e1
  have E2 := hid e2
  have E3 := hid e3
  have E4 := hid e4
  have HL := hid (les_yes' (hh + n + m) (hh + n + m) w1.heap.size 0 (fun i => ((H ++ z) ++ zt).getD i 0) E4.out w6 (Nat.le_refl _) (by unfold maxLen; omega) HJ.out (by rw [okB_of E1.out E2.out E3.out]; simp) hh n E1.out E2.out)
  have HPC : Hid (∀ i, i < n → w6.cell? ⟨b, o + i, none⟩ = some (.int .u8 (z.getD i 0))) := fun i hi => cell_later HBW6.out (HC0.out i hi)
  have HPS : Hid (∀ i, i < n → w6.cell? ⟨w1.heap.size, hh + i, none⟩ = some (.int .u8 (z.getD i 0))) := fun i hi => by
    have := HJ.out (hh + i) (by omega)
    rw [Nat.zero_add, ← HHL.out, joined_mid i (by rw [HN.out]; exact hi)] at this
    rw [← HHL.out]
    exact this
  clear hown6 hgrow6 HS5 HB5 HBW5 HO5 e1 e2 e3 e4 HCT HNN HG HGT HCT0 HN0 HHC HC0
  go_wp2_with (go_at_call 7; refine HL.out.mono ?_; rintro e w' ⟨a, rfl, HA, rfl⟩)
  refine (same_any n _ _ _ _ w1.heap.size hh b o (fun i => z.getD i 0) _ (by unfold maxLen; omega) (fun hv0 => by rw [HA.out hv0]; simp) HP0.out HPS.out HPC.out).mono ?_
  rintro e w' ⟨rfl, q, rfl⟩
  clear HL
  go_wp2
  go_ret
  exact ⟨rfl, drew_below HBW6.out⟩

set_option maxHeartbeats 1000000 in
theorem law2_nat (f : Int) (k : Nat) (a0 a1 : Option Addr) (b o n c m d : Nat) (z zt : List Int) (w : World) (f0 : 0 ≤ f) (f1 : f ≤ 255) (hn : n ≤ 524288) (hm : m ≤ 524288) (hnz : z.length = n) (hmz : zt.length = m)
    (hg : Bytes (fun i => z.getD i 0)) (hgt : Bytes (fun i => zt.getD i 0))
    (hp0 : 0 < n → a0 = some ⟨b, o, none⟩) (hc0 : ∀ i, i < n → w.cell? ⟨b, o + i, none⟩ = some (.int .u8 (z.getD i 0)))
    (hnone0 : a0 = none → n = 0 ∧ c = 0) (hct0 : ∀ ad, a0 = some ad → ∀ j v, (z.map (Value.int .u8))[j]? = some v → w.cell? (ad.add j) = some v)
    (hnone : a1 = none → m = 0 ∧ d = 0) (hct : ∀ ad, a1 = some ad → ∀ j v, (zt.map (Value.int .u8))[j]? = some v → w.cell? (ad.add j) = some v) :
    Calls Try.prog 4 #[.int .u8 f, .slice a0 n c, .slice a1 m d, .int .i64 (k : Int)] w fun e w' => e = .returned (.bool true) ∧ Below w.heap.size w w' := by
  have h1 : (n : Int) ≤ 524288 := by omega
  have h2 : (m : Int) ≤ 524288 := by omega
  have HZ := hid (zz2_yes f (k : Int) a0 a1 n c m d w hn hm)
  have HH := hid (head_row f n w f0 f1 hn)
  have heq := fun (w : World) (a : Option Addr) (n c : Nat) => Lib.run_eql_slice_nil (P := Try.prog) w 22 5 a n c 0 0 Try.underlying22
  obtain ⟨i5, hi5, hz0, hz1, hz2⟩ := info_parts info5
  have HP0 := hid hp0
  have HC0 := hid hc0
  have HN0 := hid hnone0
  have HCT0 := hid hct0
  have HCT := hid hct
  have HG := hid hg
  have HGT := hid hgt
  have HN := hid hnz
  have HMZ := hid hmz
  have HNN := hid hnone
  clear hg hnz hct hgt hmz hnone hp0 hc0 hnone0 hct0 f0 f1
  go_enter Try.func4, Try.ntmps4
  go_wp2_with (first | (go_at_call 9; refine HZ.out.mono ?_; rintro e w' ⟨rfl, rfl⟩) | (go_at_call 10; refine HH.out.mono ?_; rintro e w1 ⟨hh, H, rfl, HHL, HHD, HBX, hsz1, hh9, HHC⟩) | (at_make; refine wpList_make_own _ rfl _ _ 22 rfl (w.heap.size + 1) 5 i5 (.int .u8 0) 1 Try.underlying22 hi5 hz0 hz1 .i64 .i64 _ (hh + n + m) rfl rfl (by omega) (by rw [hz2]; omega) (by unfold maxLen; omega) (by omega) ?_))
  intro w3 hown3 hgrow3
  have HB3 := hid (Below.grown (Below.refl (w.heap.size + 1) w1) hgrow3 (by omega) (fun k h => by cases h))
  have HS3 : Hid (∀ ad, some (⟨w.heap.size, 0, none⟩ : Addr) = some ad → ∀ j u, (H.map (Value.int .u8))[j]? = some u → w3.cell? (ad.add j) = some u) := moved_src HHC.out HB3.out
  have hsz3 : w1.heap.size < w3.heap.size := (hown3.lt _ rfl).2
  have HO3 := hid hown3
  clear hgrow3 HZ HH hown3
  go_wp2_with (at_builtin; refine wpList_append_fits_any _ rfl (.tmp 43) (.tmp 44) 22 rfl (w.heap.size + 1) 5 i5 1 Try.underlying22 hi5 hz1 w1.heap.size 0 (hh + n + m) [] rfl HO3.out _ hh hh (H.map (Value.int .u8)) rfl (by simp [HHL.out]) (fun h => by cases h) HS3.out (ints_oneCell _ _) (by omega) ?_)
  intro w4 hown4 hgrow4
  try simp only [Nat.zero_add, List.nil_append] at hown4
  have HB4 := hid (Below.grown HB3.out hgrow4 (by omega) (fun k h => by cases h; omega))
  have HBW4 := hid (HBX.out.trans (HB4.out.mono (Nat.le_succ _)))
  have hsz4 : w1.heap.size < w4.heap.size := (hown4.lt _ rfl).2
  have HS4 : Hid (∀ ad, a0 = some ad → ∀ j u, (z.map (Value.int .u8))[j]? = some u → w4.cell? (ad.add j) = some u) := fun ad h j u hu => cell_later HBW4.out (HCT0.out ad h j u hu)
  have HO4 := hid hown4
  clear hown4 hgrow4 HS3 HB3 HO3
  go_wp2_with (at_builtin; refine wpList_append_fits_any _ rfl (.tmp 46) (.tmp 47) 22 rfl (w.heap.size + 1) 5 i5 1 Try.underlying22 hi5 hz1 w1.heap.size hh (hh + n + m) (H.map (Value.int .u8)) rfl HO4.out _ n c (z.map (Value.int .u8)) rfl (by simp [HN.out]) HN0.out HS4.out (ints_oneCell _ _) (by omega) ?_)
  intro w5 hown5 hgrow5
  have HB5 := hid (Below.grown HB4.out hgrow5 (by omega) (fun k h => by cases h; omega))
  have HBW5 := hid (HBX.out.trans (HB5.out.mono (Nat.le_succ _)))
  have hsz5 : w1.heap.size < w5.heap.size := (hown5.lt _ rfl).2
  have HS5 : Hid (∀ ad, a1 = some ad → ∀ j u, (zt.map (Value.int .u8))[j]? = some u → w5.cell? (ad.add j) = some u) := fun ad h j u hu => cell_later HBW5.out (HCT.out ad h j u hu)
  have HO5 := hid hown5
  clear hown5 hgrow5 HS4 HB4 HBW4 HO4
  go_wp2_with (at_builtin; refine wpList_append_fits_any _ rfl (.tmp 49) (.tmp 50) 22 rfl (w.heap.size + 1) 5 i5 1 Try.underlying22 hi5 hz1 w1.heap.size (hh + n) (hh + n + m) (H.map (Value.int .u8) ++ z.map (Value.int .u8)) rfl HO5.out _ m d (zt.map (Value.int .u8)) rfl (by simp [HMZ.out]) HNN.out HS5.out (ints_oneCell _ _) (by omega) ?_)
  intro w6 hown6 hgrow6
  have HB6 := hid (Below.grown HB5.out hgrow6 (by omega) (fun k h => by cases h; omega))
  have HBW6 := hid (HBX.out.trans (HB6.out.mono (Nat.le_succ _)))
  have HJ := hid (cells_joined3 (H := H) (z := z) (zt := zt) (N := hh + n + m) (by rw [HN.out, HMZ.out, HHL.out]) hown6)
  obtain ⟨e1, e2, e3, e4⟩ := head_joined HHD.out HHL.out HG.out HGT.out
  have E1 := hid e1
  have E2 := hid e2
  have E3 := hid e3
  have E4 := hid e4
  have HL := hid (les_yes' (hh + n + m) (hh + n + m) w1.heap.size 0 (fun i => ((H ++ z) ++ zt).getD i 0) E4.out w6 (Nat.le_refl _) (by unfold maxLen; omega) HJ.out (by rw [okB_of E1.out E2.out E3.out]; simp) hh n E1.out E2.out)
  have HPC : Hid (∀ i, i < n → w6.cell? ⟨b, o + i, none⟩ = some (.int .u8 (z.getD i 0))) := fun i hi => cell_later HBW6.out (HC0.out i hi)
  have HPS : Hid (∀ i, i < n → w6.cell? ⟨w1.heap.size, hh + i, none⟩ = some (.int .u8 (z.getD i 0))) := fun i hi => by
    have := HJ.out (hh + i) (by omega)
    rw [Nat.zero_add, ← HHL.out, joined_mid i (by rw [HN.out]; exact hi)] at this
    rw [← HHL.out]
    exact this
  clear hown6 hgrow6 HS5 HB5 HBW5 HO5 e1 e2 e3 e4 HCT HNN HG HGT HCT0 HN0 HHC HC0
  go_wp2_with (go_at_call 7; refine HL.out.mono ?_; rintro e w' ⟨a, rfl, HA, rfl⟩)
  refine (same_any n _ _ _ _ w1.heap.size hh b o (fun i => z.getD i 0) _ (by unfold maxLen; omega) (fun hv0 => by rw [HA.out hv0]; simp) HP0.out HPS.out HPC.out).mono ?_
  rintro e w' ⟨rfl, q, rfl⟩
  clear HL
  by_cases hfar : hh + n + m < k
  · go_wp2
    go_ret
    exact ⟨rfl, drew_below HBW6.out⟩
  by_cases hcut : k < hh + n
  · have HL2 := hid (les_no k (hh + n + m) (some ⟨w1.heap.size, 0, none⟩) w1.heap.size 0 (fun i => ((H ++ z) ++ zt).getD i 0) E4.out (w6.drewN q) (by unfold maxLen; omega) (fun _ => rfl) (fun i hi => HJ.out i (by omega)) (by rw [okB_of E1.out E2.out E3.out]; simp; omega))
    go_wp2_with (go_at_call 7; refine HL2.out.mono ?_; rintro e w' ⟨rfl, hw'⟩; obtain rfl := hw'.symm)
    go_ret
    exact ⟨rfl, drew_below HBW6.out⟩
  · have HL2 := hid (les_yes' k (hh + n + m) w1.heap.size 0 (fun i => ((H ++ z) ++ zt).getD i 0) E4.out (w6.drewN q) (by omega) (by unfold maxLen; omega) (fun i hi => HJ.out i (by omega)) (by rw [okB_of E1.out E2.out E3.out]; simp; omega) hh n E1.out E2.out)
    go_wp2_with (go_at_call 7; refine HL2.out.mono ?_; rintro e w' ⟨a2, rfl, HA2, rfl⟩)
    refine (same_any n _ _ _ _ w1.heap.size hh b o (fun i => z.getD i 0) (w6.drewN q) (by unfold maxLen; omega) (fun hv0 => by rw [HA2.out hv0]; simp) HP0.out HPS.out HPC.out).mono ?_
    rintro e w' ⟨rfl, q2, rfl⟩
    go_wp2
    go_ret
    exact ⟨rfl, drew_below HBW6.out⟩

end Go.Proofs.Qxb6626094a.Les
