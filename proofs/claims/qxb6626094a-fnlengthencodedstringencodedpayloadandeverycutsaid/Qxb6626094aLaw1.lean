import Derived.Test.Qxb6626094aRows
import Derived.Test.Qxb6626094aPlain
import Derived.WalkKit
import Derived.ProofKit
import Derived.OpenShut
import Derived.Below
import Derived.WalkSpells
import Derived.WalkLawsBesides
import Derived.Outline
import Derived.Deep.QuietTactic
import Derived.BigQuiet
import Derived.Laws.CopyOwn
import Derived.Test.Qxb6626094aWalks2
namespace Go.Proofs.Qxb6626094a.Les
open Go.ChangeShapes Go.WideShapes Go.ChangeAt Go.RowKit

theorem hid {p : Prop} (h : p) : Hid p := h

theorem info5 : (Try.prog.info? 5).map (fun i => (i.zero, i.size, i.bytes)) = some (some (.int .u8 0), 1, 1) := by kernel_rfl
theorem size5 : (Try.prog.info? 5).map (·.size) = some 1 := by kernel_rfl

/-! ### zzBytes_FnLengthEncodedStringModelAndTail -/
theorem zz1_yes (a0 a1 : Option Addr) (n c m d : Nat) (w : World) (hn : n ≤ 524288) (hm : m ≤ 524288) :
    Calls Try.prog 5 #[.slice a0 n c, .slice a1 m d] w fun e w' => e = .returned (.bool true) ∧ w = w' := by
  have h1 : (n : Int) ≤ 524288 := by omega
  have h2 : (m : Int) ≤ 524288 := by omega
  clear hn hm
  go_enter Try.func5, Try.ntmps5
  go_wp2
  go_ret
  exact ⟨rfl, rfl⟩

/-- Too long: she says true at once. -/
theorem law1_far (a0 a1 : Option Addr) (n c m d : Nat) (w : World) (hn : n ≤ maxLen) (hm : m ≤ maxLen) (h : 524288 < n ∨ 524288 < m) :
    Calls Try.prog 3 #[.slice a0 n c, .slice a1 m d] w fun e w' => e = .returned (.bool true) ∧ w = w' := by
  unfold maxLen at hn hm
  rcases h with h | h
  · have h1 : (524288 : Int) < n := by omega
    clear h
    go_enter Try.func3, Try.ntmps3
    go_wp2
    all_goals
      go_ret
      exact ⟨rfl, rfl⟩
  · have h1 : (524288 : Int) < m := by omega
    clear h
    go_enter Try.func3, Try.ntmps3
    go_wp2
    all_goals
      go_ret
      exact ⟨rfl, rfl⟩

/-- The nil slice. -/
theorem law1_nil (a1 : Option Addr) (m d : Nat) (w : World) (hm : m ≤ 524288) :
    Calls Try.prog 3 #[.slice none 0 0, .slice a1 m d] w fun e w' => e = .returned (.bool true) ∧ w = w' := by
  have h2 : (m : Int) ≤ 524288 := by omega
  have hz := zz1_yes none a1 0 0 m d w (by omega) hm
  have hne := fun (w : World) (a : Option Addr) (n c : Nat) => run_neq_slice_nil_any (P := Try.prog) w 22 5 a n c 0 0 Try.underlying22
  have heq := fun (w : World) (a : Option Addr) (n c : Nat) => Lib.run_eql_slice_nil (P := Try.prog) w 22 5 a n c 0 0 Try.underlying22
  have HZ := hid hz
  have HM := hid (mod_nil 0 none w)
  have HL := hid (les_no 0 0 none 0 0 (fun _ => 0) (fun _ => by simp) w (by decide) (fun h => by omega) (fun i h => by omega) (by decide))
  clear hz hm
  go_enter Try.func3, Try.ntmps3
  go_wp2_with (first | (go_at_call 5; refine HZ.out.mono ?_; rintro e w' ⟨rfl, rfl⟩) | (go_at_call 6; refine HM.out.mono ?_; rintro e w' ⟨rfl, hw'⟩; obtain rfl := hw'.symm) | (go_at_call 7; refine HL.out.mono ?_; rintro e w' ⟨rfl, hw'⟩; obtain rfl := hw'.symm))
  go_ret
  exact ⟨rfl, rfl⟩

/-- What a row that a copy has filled reads as. -/
theorem cells_copied (w : World) (G n : Nat) (cur : List Value) (zs : List Int) (hcur : cur.length = n) (hzs : zs.length = n)
    (hg : w.heap[G]? = some (.cells (splice cur 0 (zs.map (Value.int .u8))).toArray 5 (0, 0))) :
    ∀ i, i < n → w.cell? ⟨G, 0 + i, none⟩ = some (.int .u8 (zs.getD i 0)) := by
  intro i hi
  rw [Nat.zero_add, cell_of_row w G i _ 5 (0, 0) hg]
  have e : splice cur 0 (zs.map (Value.int .u8)) = zs.map (Value.int .u8) := by
    simp only [splice, List.take_zero, List.nil_append, List.length_map, Nat.zero_add]
    rw [List.drop_eq_nil_of_le (by omega), List.append_nil]
  rw [e]
  simp [List.getElem?_eq_getElem (show i < zs.length by omega), List.getD_eq_getElem?_getD]

theorem made_row {w : World} {B n : Nat} {xs : List Value} (h : w.ownsRow B 5 1 (.slice (some ⟨B, 0, none⟩) n n) n xs) :
    ∃ cur : List Value, w.heap[B]? = some (.cells cur.toArray 5 (0, 0)) ∧ cur.length = n := by
  rcases h.2 with ⟨h', _⟩ | ⟨g', cap', cur, h', _, hg, _, _, hs, _⟩
  · simp at h'
  · simp only [Value.slice.injEq, Option.some.injEq, Addr.mk.injEq, and_true, true_and] at h'
    obtain ⟨rfl, rfl⟩ := h'
    exact ⟨cur.toList, by simpa using hg, by simpa using hs⟩

theorem made_below {w w1 : World} (h : w.grownBy w1 none) : Below w.heap.size w w1 :=
  ⟨h.os, h.tape, h.output, h.size, fun k hk => h.block k hk (by simp)⟩


set_option maxHeartbeats 400000 in
theorem law1_no (x : Addr) (n c : Nat) (a1 : Option Addr) (m d : Nat) (z : List Int) (w : World) (hn : n ≤ 524288) (hm : m ≤ 524288) (hnz : z.length = n)
    (hg : Bytes (fun i => z.getD i 0))
    (hc : ∀ j v, (z.map (Value.int .u8))[j]? = some v → w.cell? (x.add j) = some v) (hok : okB (fun i => z.getD i 0) n = false) :
    Calls Try.prog 3 #[.slice (some x) n c, .slice a1 m d] w fun e w' => e = .returned (.bool true) ∧ Below w.heap.size w w' := by
  have h1 : (n : Int) ≤ 524288 := by omega
  have h2 : (m : Int) ≤ 524288 := by omega
  have HZ := hid (zz1_yes (some x) a1 n c m d w hn hm)
  have hne := fun (w : World) (a : Option Addr) (n c : Nat) => run_neq_slice_nil_any (P := Try.prog) w 22 5 a n c 0 0 Try.underlying22
  have heq := fun (w : World) (a : Option Addr) (n c : Nat) => Lib.run_eql_slice_nil (P := Try.prog) w 22 5 a n c 0 0 Try.underlying22
  obtain ⟨i5, hi5, hz0, hz1, hz2⟩ := info_parts info5
  have HC := hid hc
  have HG := hid hg
  have HO := hid hok
  have HN := hid hnz
  clear hc hg hok hnz
  go_enter Try.func3, Try.ntmps3
  go_wp2_with (first | (go_at_call 5; refine HZ.out.mono ?_; rintro e w' ⟨rfl, rfl⟩) | (at_make; refine wpList_make_full _ rfl _ _ 22 rfl w.heap.size 5 i5 (.int .u8 0) 1 Try.underlying22 hi5 hz0 hz1 .i64 .i64 _ _ n rfl rfl rfl rfl (by rw [hz2]; omega) (by unfold maxLen; omega) (Nat.le_refl _) ?_))
  intro w1 hown hgrow
  obtain ⟨cur, hcur, hlen⟩ := made_row hown
  have HB := hid (made_below hgrow)
  have HSRC : Hid (∀ j v, (z.map (Value.int .u8))[j]? = some v → w1.cell? (x.add j) = some v) := fun j v h => cell_later HB.out (HC.out j v h)
  have HLN := hid hlen
  clear hown hgrow hlen HZ
  go_wp2_with (refine wpList_copy_splice rfl (.tmp 31) (.tmp 32) 22 22 rfl 5 Try.underlying22 size5 _ _ _ _ _ _ rfl rfl w.heap.size 0 cur 5 hcur (z.map (Value.int .u8)) (by simp [HN.out]) (fun _ => ⟨rfl, x, rfl, HSRC.out⟩) (by simp [HN.out, HLN.out]) (ints_oneCell _ _) w.heap.size w HB.out (Nat.le_refl _) ?_)
  intro w2 HG2 HB2
  have hcc := cells_copied w2 w.heap.size n cur z HLN.out HN.out HG2.out
  have HM := hid (mod_no n n (some ⟨w.heap.size, 0, none⟩) w.heap.size 0 (fun i => z.getD i 0) HG.out w2 (by unfold maxLen; omega) (fun _ => rfl) hcc HO.out)
  have HL := hid (les_no n n (some ⟨w.heap.size, 0, none⟩) w.heap.size 0 (fun i => z.getD i 0) HG.out w2 (by unfold maxLen; omega) (fun _ => rfl) hcc HO.out)
  have HBX := hid HB2
  clear hcc HG2 HB2 hcur HSRC HB HC HG HO
  have hl1 : (z.map (Value.int .u8)).length = n := by simp [HN.out]
  go_wp2_with (first | (go_at_call 6; refine HM.out.mono ?_; rintro e w' ⟨rfl, hw'⟩; obtain rfl := hw'.symm) | (go_at_call 7; refine HL.out.mono ?_; rintro e w' ⟨rfl, hw'⟩; obtain rfl := hw'.symm))
  go_ret
  exact ⟨rfl, HBX.out⟩

end Go.Proofs.Qxb6626094a.Les
