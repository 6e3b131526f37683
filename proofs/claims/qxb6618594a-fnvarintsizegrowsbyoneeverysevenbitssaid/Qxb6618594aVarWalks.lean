/- The contracts of the functions on the road of the two laws on the size of a varint. math/bits.Len64 by the shelf's contract, laid at this dump (Qxb6618594aShelf). -/
import Derived.Test.Qxb6618594aRows
import Derived.Test.Qxb6618594aVarPlain
import Derived.Test.Qxb6618594aShelf
import Derived.WalkKit
import Derived.ProofKit
namespace Go.Proofs.Qxb6618594a
open Go.ChangeShapes Go.WideShapes Go.ChangeAt Go.RowKit
def Len64Said : Prop := ∀ (x : Int) (w : World), 0 ≤ x → x ≤ 18446744073709551615 → Calls Try.prog 43 #[.int .u64 x] w fun e w' => e = .returned (.int .i64 (Lib.bitLen x.toNat)) ∧ w' = w

theorem len64_said : Len64Said := fun x w h0 h1 => Try.bits_Len64 x w h0 h1

theorem uvarintSize_any (hL : Len64Said) (z y : Nat) (hz : z = 2 * y ∨ z = 2 * y + 1) (hy : y < 2 ^ 63) (w : World) :
    Calls Try.prog 40 #[.int .u64 z] w fun e w' => e = .returned (.int .i64 (grp y : Nat)) ∧ w' = w := by
  have ho := or_one z y hz hy
  have hb := Lib.bitLen_le (2 * y + 1) 64 (by omega) (by omega)
  have HG : Hid (((grp y : Nat) : Int) = ((Lib.bitLen (2 * y + 1) : Int) + 6) / 7) := by show _ = _; unfold grp; omega
  have hm : 2 * y + 1 < 18446744073709551616 := by omega
  have ht : ((2 * y + 1 : Nat) : Int).toNat = 2 * y + 1 := by omega
  generalize 2 * y + 1 = m at *
  clear hz hy
  go_enter Try.func40, Try.ntmps40
  go_wp2_with fail
  refine (hL _ _ (by omega) (by omega)).mono ?_
  rintro e w' ⟨rfl, rfl⟩
  rw [ht]
  go_wp2
  go_ret
  exact ⟨by rw [HG.out]; rfl, rfl⟩

theorem varintSize_any (hL : Len64Said) (x : Int) (h0 : -9223372036854775808 ≤ x) (h1 : x ≤ 9223372036854775807) (w : World) :
    Calls Try.prog 32 #[.int .i64 x] w fun e w' => e = .returned (.int .i64 (grp (mag x) : Nat)) ∧ w' = w := by
  obtain ⟨z, hz, hzl, hzy⟩ := zz_eq x h0 h1
  have hm := mag_lt x h0 h1
  generalize mag x = y at *
  go_enter Try.func32, Try.ntmps32
  go_wp2_with fail
  refine (uvarintSize_any hL z y hzy hm _).mono ?_
  rintro e w' ⟨rfl, rfl⟩
  go_wp2
  go_ret
  exact ⟨rfl, rfl⟩

theorem zzVarintSize_any (hL : Len64Said) (x : Int) (h0 : -9223372036854775808 ≤ x) (h1 : x ≤ 9223372036854775807) (w : World) :
    Calls Try.prog 9 #[.int .i64 x] w fun e w' => e = .returned (.int .i64 (grp (mag x) : Nat)) ∧ w' = w := by
  go_enter Try.func9, Try.ntmps9
  go_wp2_with fail
  refine (varintSize_any hL x h0 h1 _).mono ?_
  rintro e w' ⟨rfl, rfl⟩
  go_wp2
  go_ret
  exact ⟨rfl, rfl⟩

/-- fitsGroups at k groups, 1 to 9. -/
theorem fits_any (x : Int) (k : Nat) (b : Bool) (h1 : 1 ≤ k) (h9 : k ≤ 9) (hb : b = decide (2 * mag x + 1 < 2 ^ (7 * k))) (w : World) :
    Calls Try.prog 10 #[.int .i64 x, .int .i64 (k : Int)] w fun e w' => e = .returned (.bool b) ∧ w' = w := by
  obtain ⟨e1, e2⟩ := half_eq k h1 h9
  have hr := mag_range x (2 ^ (7 * k - 1))
  rw [two_half k h1] at hr
  have hp : (2 ^ (7 * k - 1) : Nat) = 2 ^ (7 * k - 1) := rfl
  generalize hH : (2 ^ (7 * k - 1) : Nat) = H at *
  have hb2 : b = decide (-(H : Int) ≤ x ∧ x < (H : Int)) := by rw [hb]; exact decide_eq_decide.2 hr
  have h1' : (1 : Int) ≤ (k : Int) := by omega
  have h9' : (k : Int) < 10 := by omega
  rw [e1] at e2
  clear hr hb hp hH
  subst hb2
  by_cases c1 : -(H : Int) ≤ x
  · by_cases c2 : x < (H : Int)
    · have hd : decide (-(H : Int) ≤ x ∧ x < (H : Int)) = true := by simp [c1, c2]
      rw [hd]
      go_enter Try.func10, Try.ntmps10
      go_wp2
      go_ret
      exact ⟨rfl, rfl⟩
    · have hd : decide (-(H : Int) ≤ x ∧ x < (H : Int)) = false := by simp [c2]
      rw [hd]
      go_enter Try.func10, Try.ntmps10
      go_wp2
      go_ret
      exact ⟨rfl, rfl⟩
  · have hd : decide (-(H : Int) ≤ x ∧ x < (H : Int)) = false := by simp [c1]
    rw [hd]
    go_enter Try.func10, Try.ntmps10
    go_wp2
    go_ret
    exact ⟨rfl, rfl⟩
/-- The same, the number of groups as an int. -/
theorem fits_at (x : Int) (k : Nat) (n : Int) (b : Bool) (hn : n = (k : Int)) (h1 : 1 ≤ k) (h9 : k ≤ 9) (hb : b = decide (2 * mag x + 1 < 2 ^ (7 * k))) (w : World) :
    Calls Try.prog 10 #[.int .i64 x, .int .i64 n] w fun e w' => e = .returned (.bool b) ∧ w' = w := by
  subst hn; exact fits_any x k b h1 h9 hb w
/-- fitsGroups at ten groups. -/
theorem fits_ten (x : Int) (k : Nat) (h : 10 ≤ k) (w : World) :
    Calls Try.prog 10 #[.int .i64 x, .int .i64 (k : Int)] w fun e w' => e = .returned (.bool true) ∧ w' = w := by
  have h' : (10 : Int) ≤ (k : Int) := by omega
  go_enter Try.func10, Try.ntmps10
  go_wp2
  go_ret
  exact ⟨rfl, rfl⟩

/-- The walk of the first law. -/
theorem law_grows (hL : Len64Said) (x : Int) (h0 : -9223372036854775808 ≤ x) (h1 : x ≤ 9223372036854775807) (w : World) :
    Calls Try.prog 3 #[.int .i64 x] w fun e w' => e = .returned (.bool true) ∧ w' = w := by
  have hm := mag_lt x h0 h1
  by_cases hs : -64 ≤ x ∧ x < 64
  · have hg := grp_small (mag x) ((mag_small x).2 hs)
    obtain ⟨hs1, hs2⟩ := hs
    go_enter Try.func3, Try.ntmps3
    go_wp2_with fail
    refine (zzVarintSize_any hL x h0 h1 _).mono ?_
    rintro e w' ⟨rfl, rfl⟩
    rw [hg]
    go_wp2
    go_ret
    exact ⟨rfl, rfl⟩
  · have hg := grp_step (mag x) (by have := mag_small x; omega) hm
    rw [← mag_shr x] at hg
    have hgb := grp_bounds (mag (x / 128)) (by rw [mag_shr]; omega)
    have hgi : ((grp (mag x) : Nat) : Int) = (grp (mag (x / 128)) : Nat) + 1 := by omega
    have hq0 : -9223372036854775808 ≤ x / 128 := by omega
    have hq1 : x / 128 ≤ 9223372036854775807 := by omega
    generalize hn : grp (mag x) = n at *
    have HN : Hid (grp (mag x) = n) := hn
    have HG : Hid (((n : Nat) : Int) = (grp (mag (x / 128)) : Nat) + 1) := hgi
    have hn10 : n ≤ 11 := by omega
    clear hn hgi hg hm
    rcases (show x < -64 ∨ (-64 ≤ x ∧ 64 ≤ x) by omega) with hx | ⟨hx, hx'⟩
    all_goals
      go_enter Try.func3, Try.ntmps3
      go_wp2_with fail
      refine (zzVarintSize_any hL x h0 h1 _).mono ?_
      rintro e w' ⟨rfl, rfl⟩
      rw [HN.out]
      go_wp2_with fail
      refine (zzVarintSize_any hL (x / 128) hq0 hq1 _).mono ?_
      rintro e w' ⟨rfl, rfl⟩
      have hfin := HG.out
      generalize grp (mag (x / 128)) = q at *
      clear HN HG
      go_wp2
      go_ret
      exact ⟨by simp, rfl⟩

/-- The walk of the second law. -/
theorem law_least (hL : Len64Said) (x : Int) (h0 : -9223372036854775808 ≤ x) (h1 : x ≤ 9223372036854775807) (w : World) :
    Calls Try.prog 4 #[.int .i64 x] w fun e w' => e = .returned (.bool true) ∧ w' = w := by
  have hm := mag_lt x h0 h1
  obtain ⟨hg1, hg2⟩ := grp_bounds (mag x) hm
  have hx := not_i64 x h0 h1
  have HF : Hid (grp (mag x) ≤ 9 → true = decide (2 * mag x + 1 < 2 ^ (7 * grp (mag x)))) := fun _ => (decide_eq_true (grp_fits (mag x) _ hm (Nat.le_refl _))).symm
  have HB : Hid (∀ k, k + 1 = grp (mag x) → false = decide (2 * mag x + 1 < 2 ^ (7 * k))) := fun k hk => (decide_eq_false (grp_least (mag x) k (by omega) (by omega))).symm
  have HN : Hid (grp (mag (-x - 1)) = grp (mag x)) := by show _ = _; rw [mag_not]
  obtain ⟨n, hn⟩ : ∃ n, n = grp (mag x) := ⟨_, rfl⟩
  have HE : Hid (grp (mag x) = n) := hn.symm
  rw [← hn] at hg1 hg2 HN HF HB
  clear hn hm
  by_cases c1 : n = 1
  · subst c1
    go_enter Try.func4, Try.ntmps4
    go_wp2_with fail
    refine (zzVarintSize_any hL x h0 h1 _).mono ?_
    rintro e w' ⟨rfl, rfl⟩
    rw [HE.out]
    go_wp2_with fail
    refine (zzVarintSize_any hL (-x - 1) (by omega) (by omega) _).mono ?_
    rintro e w' ⟨rfl, rfl⟩
    rw [HN.out]
    go_wp2_with fail
    refine (fits_any x 1 true (by omega) (by omega) (HF.out (by omega)) _).mono ?_
    rintro e w' ⟨rfl, rfl⟩
    go_wp2
    go_ret
    exact ⟨rfl, rfl⟩
  · obtain ⟨k, rfl⟩ : ∃ k, n = k + 1 := ⟨n - 1, by omega⟩
    have hk : (1 : Int) ≤ (k : Int) := by omega
    have hk9 : (k : Int) ≤ 9 := by omega
    have hne : (((k + 1 : Nat) : Int) == 1) = false := beq_eq_false_iff_ne.2 (by omega)
    by_cases c10 : k = 9
    · subst c10
      go_enter Try.func4, Try.ntmps4
      go_wp2_with fail
      refine (zzVarintSize_any hL x h0 h1 _).mono ?_
      rintro e w' ⟨rfl, rfl⟩
      rw [HE.out]
      go_wp2_with fail
      refine (zzVarintSize_any hL (-x - 1) (by omega) (by omega) _).mono ?_
      rintro e w' ⟨rfl, rfl⟩
      rw [HN.out]
      go_wp2_with fail
      refine (fits_ten x 10 (by omega) _).mono ?_
      rintro e w' ⟨rfl, rfl⟩
      go_wp2_with fail
      refine (fits_any x 9 false (by omega) (by omega) (HB.out 9 rfl) _).mono ?_
      rintro e w' ⟨rfl, rfl⟩
      go_wp2
      go_ret
      exact ⟨rfl, rfl⟩
    · go_enter Try.func4, Try.ntmps4
      go_wp2_with fail
      refine (zzVarintSize_any hL x h0 h1 _).mono ?_
      rintro e w' ⟨rfl, rfl⟩
      rw [HE.out]
      go_wp2_with fail
      refine (zzVarintSize_any hL (-x - 1) (by omega) (by omega) _).mono ?_
      rintro e w' ⟨rfl, rfl⟩
      rw [HN.out]
      go_wp2_with fail
      have hq : (k : Int) + 1 = ((k + 1 : Nat) : Int) := by omega
      have hq1 : 1 ≤ k + 1 := by omega
      have hq2 : k + 1 ≤ 9 := by omega
      have hq3 := HF.out hq2
      have hc := fits_at x (k + 1) ((k : Int) + 1) true hq hq1 hq2 hq3
      clear hq hq1 hq2 hq3
      refine (hc _).mono ?_
      clear hc
      rintro e w' ⟨rfl, rfl⟩
      go_wp2_with fail
      have hc := fits_any x k false (by omega) (by omega) (HB.out k rfl)
      refine (hc _).mono ?_
      clear hc
      rintro e w' ⟨rfl, rfl⟩
      go_wp2
      go_ret
      exact ⟨rfl, rfl⟩
end Go.Proofs.Qxb6618594a
