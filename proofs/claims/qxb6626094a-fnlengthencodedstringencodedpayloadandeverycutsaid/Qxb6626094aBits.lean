/-
  SMALL FACTS ON uint64's WRAP AND OR, in the walk's spelling. No program in sight.
-/
import Derived.WalkKit
import Derived.Laws.BitsAllLaws
import Derived.Test.Qxb6626094aPlain
namespace Go.Proofs.Qxb6626094a.Les

theorem wrap_u64 (x : Int) (h0 : 0 ≤ x) (h1 : x < 18446744073709551616) : IntKind.u64.wrap x = x := by
  simp [IntKind.wrap, IntKind.bits, IntKind.signed]
  omega

theorem wrap_u64_mod (x : Int) : IntKind.u64.wrap x = x % 18446744073709551616 := by
  simp [IntKind.wrap, IntKind.bits, IntKind.signed]

theorem or_step (d c : Int) (h0 : 0 ≤ d) (h1 : d < 72057594037927936) (h2 : 0 ≤ c) (h3 : c ≤ 255) :
    bits .or .u64 (IntKind.u64.wrap (d * 256)) (IntKind.u64.wrap c) = d * 256 + c := by
  rw [wrap_u64 _ (by omega) (by omega), wrap_u64 _ (by omega) (by omega), u64_or _ _ (by omega) (by omega) (by omega) (by omega)]
  have e : (d * 256).toNat = d.toNat <<< 8 := by rw [Nat.shiftLeft_eq]; omega
  rw [e, ← Nat.shiftLeft_add_eq_or_of_lt (by omega), Nat.shiftLeft_eq]
  omega

theorem dn_step (g : Nat → Int) (hg : Bytes g) (m k : Nat) (hk : k ≤ 7) :
    bits .or .u64 (IntKind.u64.wrap (dn g m k * 256)) (IntKind.u64.wrap (g (m - k))) = dn g m (k + 1) := by
  have h := dn_bd g hg m k
  have h7 := pow_le7 k hk
  rw [or_step _ _ (by omega) (by omega) (hg _).1 (hg _).2]
  rfl

theorem vv_step (g : Nat → Int) (hg : Bytes g) (k : Nat) (hk : k ≤ 7) :
    IntKind.u64.wrap (vv g k + IntKind.u64.wrap (IntKind.u64.wrap (g (k + 1)) * pw k)) = vv g (k + 1) := by
  have h := vv_bd g hg (k + 1)
  have h8 := pow_le8 (k + 1) (by omega)
  have hv := vv_bd g hg k
  have hb := mul_le_byte (g (k + 1)) (256 ^ k) (hg _).1 (hg _).2 (pow_pos' k)
  have h7 := pow_le7 k hk
  have hg' := hg (k + 1)
  rw [pw_eq k hk, wrap_u64 (g (k + 1)) (by omega) (by omega), wrap_u64 (g (k + 1) * 256 ^ k) (by omega) (by omega)]
  simp only [vv] at h ⊢
  rw [wrap_u64 _ (by omega) (by omega)]

theorem pw_step (k : Nat) : IntKind.u64.wrap (pw k * 256) = pw (k + 1) := by
  rw [wrap_u64_mod]; rfl

end Go.Proofs.Qxb6626094a.Les
