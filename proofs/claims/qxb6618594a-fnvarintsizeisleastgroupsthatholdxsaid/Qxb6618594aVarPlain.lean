/- THE PLAIN LAW OF THE SIZE OF A VARINT: no Go in sight: how many groups of seven bits the odd number 2 y + 1 takes. -/
import Derived.Lib.BitFns
import Derived.Laws.BitsAllLaws
import Derived.IntWalk
namespace Go.Proofs.Qxb6618594a
open Go.Lib Go.RowKit

/-- The number of groups of seven bits of 2 y + 1. -/
def grp (y : Nat) : Nat := (bitLen (2 * y + 1) + 6) / 7

theorem bitLen_pos (n : Nat) (h0 : n ≠ 0) (h : n < 2 ^ 64) : 1 ≤ bitLen n := by
  rw [bitLen_half n h0 h]; omega
theorem bitLen_ge (k n : Nat) (h : 2 ^ k ≤ n) (hn : n < 2 ^ 64) : k + 1 ≤ bitLen n := by
  have hp : 0 < 2 ^ k := Nat.two_pow_pos k
  rw [bitLen_shift k n h hn]
  have h1 : 1 ≤ n / 2 ^ k := (Nat.one_le_div_iff hp).2 h
  have h2 : n / 2 ^ k ≤ n := Nat.div_le_self _ _
  have := bitLen_pos (n / 2 ^ k) (by omega) (by omega)
  omega
theorem lt_of_bitLen (k n : Nat) (hn : n < 2 ^ 64) (h : bitLen n ≤ k) : n < 2 ^ k := by
  by_cases c : 2 ^ k ≤ n
  · have := bitLen_ge k n c hn; omega
  · omega

theorem grp_bounds (y : Nat) (hy : y < 2 ^ 63) : 1 ≤ grp y ∧ grp y ≤ 10 := by
  have h1 := bitLen_pos (2 * y + 1) (by omega) (by omega)
  have h2 := bitLen_le (2 * y + 1) 64 (by omega) (by omega)
  unfold grp
  omega
theorem grp_small (y : Nat) (hy : y < 64) : grp y = 1 := by
  have h1 := bitLen_pos (2 * y + 1) (by omega) (by omega)
  have h2 := bitLen_le (2 * y + 1) 7 (by omega) (by omega)
  unfold grp
  omega
theorem grp_step (y : Nat) (h : 64 ≤ y) (hy : y < 2 ^ 63) : grp y = grp (y / 128) + 1 := by
  have e1 := bitLen_shift 7 (2 * y + 1) (by omega) (by omega)
  have e2 : (2 * y + 1) / 2 ^ 7 = y / 64 := by omega
  have e3 := bitLen_half (y / 64) (by omega) (by omega)
  have e4 := bitLen_half (2 * (y / 128) + 1) (by omega) (by omega)
  have e5 : y / 64 / 2 = y / 128 := by omega
  have e6 : (2 * (y / 128) + 1) / 2 = y / 128 := by omega
  rw [e2] at e1
  rw [e5] at e3
  rw [e6] at e4
  unfold grp
  omega
/-- y fits into its own groups .. -/
theorem grp_fits (y n : Nat) (hy : y < 2 ^ 63) (hn : grp y ≤ n) : 2 * y + 1 < 2 ^ (7 * n) := by
  refine lt_of_bitLen _ _ (by omega) ?_
  unfold grp at hn
  omega
/-- .. and into no fewer. -/
theorem grp_least (y n : Nat) (hn : n < grp y) (h9 : n ≤ 9) : ¬ 2 * y + 1 < 2 ^ (7 * n) := by
  intro h
  have := bitLen_le (2 * y + 1) (7 * n) (by omega) h
  unfold grp at hn
  omega

/-- The number without its sign: x, or the complement of x. -/
def mag (x : Int) : Nat := if 0 ≤ x then x.toNat else (-x - 1).toNat
theorem mag_pos {x : Int} (h : 0 ≤ x) : mag x = x.toNat := by simp [mag, h]
theorem mag_neg {x : Int} (h : x < 0) : mag x = (-x - 1).toNat := by unfold mag; rw [if_neg (by omega)]
theorem mag_lt (x : Int) (h0 : -9223372036854775808 ≤ x) (h1 : x ≤ 9223372036854775807) : mag x < 2 ^ 63 := by
  by_cases h : 0 ≤ x
  · rw [mag_pos h]; omega
  · rw [mag_neg (by omega)]; omega
theorem mag_not (x : Int) : mag (-x - 1) = mag x := by
  by_cases h : 0 ≤ x
  · rw [mag_pos h, mag_neg (by omega)]; omega
  · rw [mag_neg (by omega : x < 0), mag_pos (by omega)]
theorem mag_shr (x : Int) : mag (x / 128) = mag x / 128 := by
  by_cases h : 0 ≤ x
  · rw [mag_pos h, mag_pos (by omega)]; omega
  · rw [mag_neg (by omega : x < 0), mag_neg (by omega)]; omega
theorem mag_small (x : Int) : mag x < 64 ↔ -64 ≤ x ∧ x < 64 := by
  by_cases h : 0 ≤ x
  · rw [mag_pos h]; omega
  · rw [mag_neg (by omega)]; omega
/-- 2 y + 1 < 2^(7 n) says that x lies in the range that n groups hold. -/
theorem mag_range (x : Int) (H : Nat) : 2 * mag x + 1 < 2 * H ↔ -(H : Int) ≤ x ∧ x < H := by
  by_cases h : 0 ≤ x
  · rw [mag_pos h]; omega
  · rw [mag_neg (by omega)]; omega

/-! ### The zigzag, in the walk's own spelling -/
theorem or_one (z y : Nat) (hz : z = 2 * y ∨ z = 2 * y + 1) (hy : y < 2 ^ 63) : bits .or .u64 (z : Int) 1 = ((2 * y + 1 : Nat) : Int) := by
  have e : z ||| 1 = 2 * y + 1 := by
    rcases hz with rfl | rfl
    · have := Nat.two_pow_add_eq_or_of_lt (i := 1) (b := 1) (by omega) y
      rw [← Nat.pow_one 2]; exact this.symm
    · have := Nat.two_pow_add_eq_or_of_lt (i := 1) (b := 1) (by omega) y
      have h2 : 2 * y + 1 = 2 * y ||| 1 := by rw [← Nat.pow_one 2]; simpa using this
      rw [h2, Nat.or_assoc]; rfl
  have := u64_or_nat z 1 (by omega) (by omega)
  rw [e] at this
  exact this
theorem xor_ones (a : Nat) (ha : a < 18446744073709551616) : a ^^^ 18446744073709551615 = 18446744073709551615 - a := by
  have h := congrArg BitVec.toNat (BitVec.xor_allOnes (x := BitVec.ofNat 64 a))
  rw [BitVec.toNat_xor, BitVec.toNat_not, BitVec.toNat_allOnes, BitVec.toNat_ofNat, Nat.mod_eq_of_lt (by omega)] at h
  simpa using h
theorem zz_eq (x : Int) (h0 : -9223372036854775808 ≤ x) (h1 : x ≤ 9223372036854775807) :
    ∃ z : Nat, bits .xor .u64 (IntKind.u64.wrap (wrap64 (x * 2))) (IntKind.u64.wrap (x / 9223372036854775808)) = (z : Int) ∧ z < 18446744073709551616 ∧ (z = 2 * mag x ∨ z = 2 * mag x + 1) := by
  by_cases h : 0 ≤ x
  · refine ⟨2 * x.toNat, ?_, by omega, Or.inl (by rw [mag_pos h])⟩
    have e1 : IntKind.u64.wrap (wrap64 (x * 2)) = ((2 * x.toNat : Nat) : Int) := by
      rw [IntKind.wrap_u64]; unfold wrap64; omega
    have e2 : IntKind.u64.wrap (x / 9223372036854775808) = ((0 : Nat) : Int) := by
      rw [IntKind.wrap_u64]; omega
    rw [e1, e2, u64_xor_nat _ _ (by omega) (by omega)]
    simp
  · refine ⟨2 * (-x - 1).toNat + 1, ?_, by omega, Or.inr (by rw [mag_neg (by omega)])⟩
    have e1 : IntKind.u64.wrap (wrap64 (x * 2)) = ((18446744073709551616 - 2 * (-x).toNat : Nat) : Int) := by
      rw [IntKind.wrap_u64]; unfold wrap64; omega
    have e2 : IntKind.u64.wrap (x / 9223372036854775808) = ((18446744073709551615 : Nat) : Int) := by
      rw [IntKind.wrap_u64]; omega
    rw [e1, e2, u64_xor_nat _ _ (by omega) (by omega), xor_ones _ (by omega)]
    omega
/-- Half of what k groups hold, as the walk spells it. -/
theorem half_eq (k : Nat) (h1 : 1 ≤ k) (h9 : k ≤ 9) : wrap64 (2 ^ (7 * k - 1)) = ((2 ^ (7 * k - 1) : Nat) : Int) ∧ wrap64 (-wrap64 (2 ^ (7 * k - 1))) = -((2 ^ (7 * k - 1) : Nat) : Int) := by
  have : k = 1 ∨ k = 2 ∨ k = 3 ∨ k = 4 ∨ k = 5 ∨ k = 6 ∨ k = 7 ∨ k = 8 ∨ k = 9 := by omega
  rcases this with rfl | rfl | rfl | rfl | rfl | rfl | rfl | rfl | rfl <;> decide +kernel
theorem two_half (k : Nat) (h1 : 1 ≤ k) : 2 * 2 ^ (7 * k - 1) = 2 ^ (7 * k) := by
  rw [Nat.mul_comm, ← Nat.pow_succ]; congr 1; omega
/-- The complement of a signed number, as the walk spells it. -/
theorem not_i64 (x : Int) (h0 : -9223372036854775808 ≤ x) (h1 : x ≤ 9223372036854775807) : bits .xor .i64 (-1) x = -x - 1 := by
  show IntKind.i64.wrap ((BitVec.ofInt 64 (-1) ^^^ BitVec.ofInt 64 x).toNat : Int) = _
  have e : BitVec.ofInt 64 (-1) = BitVec.allOnes 64 := by decide
  rw [e, BitVec.allOnes_xor, BitVec.toNat_not, BitVec.toNat_ofInt, IntKind.wrap_i64]
  omega
end Go.Proofs.Qxb6618594a
