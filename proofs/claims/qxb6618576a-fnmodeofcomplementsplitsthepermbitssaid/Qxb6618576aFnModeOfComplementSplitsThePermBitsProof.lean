/- The law FnModeOfComplementSplitsThePermBits: the walk out of the callees' contracts; the frame is the shell's. -/
import Derived.Test.Qxb6618576aModes
import Derived.Deep.RegionHeld3
import Derived.WalkKit
import Derived.ProofKit
import Derived.OpenShut
import Derived.ShutString
namespace Go.Proofs.Qxb6618576a.fnModeOfComplementSplitsThePermBits
open Go.ChangeShapes Go.WideShapes Go.ChangeAt Go.RowKit
open Go.ChangeMaps (open_string shut_string)
set_option linter.unusedVariables false      -- a walk need not use every 'w<i>' (that an integer argument fits its kind)

theorem own : ownKnob Try.prog.godebug = none := by kernel_rfl

/-! ### THE PLAIN LAWS -/
theorem nat_split : ∀ a : Fin 512, a.val &&& (511 - a.val) = 0 := by decide +kernel
theorem disjoint (x y : Int) (h0 : 0 ≤ x) (h1 : x < 512) (hy : y = 511 - x) : bits .and .u32 x y = 0 := by
  subst hy
  obtain ⟨a, rfl⟩ := Int.eq_ofNat_of_zero_le h0
  have ha : a < 512 := by omega
  have e : (511 : Int) - (a : Int) = ((511 - a : Nat) : Int) := by omega
  rw [e, u32_and_nat a (511 - a) (by omega) (by omega), nat_split ⟨a, ha⟩]
  rfl
theorem not_u32 (m : Int) (h0 : 0 ≤ m) (h1 : m < 4294967296) : bits .xor .u32 IntKind.u32.max m = 4294967295 - m := by
  obtain ⟨a, rfl⟩ := Int.eq_ofNat_of_zero_le h0
  have e : IntKind.u32.max = ((4294967295 : Nat) : Int) := by decide
  have hx : 4294967295 ^^^ a = 4294967295 - a := by
    have h := congrArg BitVec.toNat (BitVec.allOnes_xor (x := BitVec.ofNat 32 a))
    rw [BitVec.toNat_xor, BitVec.toNat_not, BitVec.toNat_allOnes, BitVec.toNat_ofNat, Nat.mod_eq_of_lt (by omega)] at h
    simpa using h
  rw [e, u32_xor_nat _ _ (by omega) (by omega), hx]
  omega

/-! ### STEP 1: THE WALK: the Go text returns true. 'Grown w w'': the world has at most new blocks (Derived/RowKit3.lean). Part the cases AHEAD of 'go_enter' where a test parts the walk; take each callee by a contract of your own. -/
set_option maxHeartbeats 1000000 in
theorem walk (a0 : Int) (w0 : (Lit.int .u32 a0).wf = true) (w : World) :
    Calls Try.prog 4 #[.int .u32 a0] w fun e w' => e = .returned (.bool true) ∧ Grown w w' := by
  obtain ⟨h0, h0s⟩ := bounds_u32 w0
  have h0' : a0 < 4294967296 := by omega
  have hn := not_u32 a0 h0 h0'
  have hd := disjoint (a0 % 512) ((4294967295 - a0) % 512) (by omega) (by omega) (by omega)
  go_enter Try.func4, Try.ntmps4
  go_wp2_with fail
  refine (zzModeOf_any a0 h0 h0' _).mono ?_
  rintro e w' ⟨rfl, c1, c2, rfl⟩
  go_wp2_with fail
  refine (zzModeOf_any (4294967295 - a0) (by omega) (by omega) _).mono ?_
  rintro e w' ⟨rfl, c3, c4, rfl⟩
  go_wp2_with (first | (go_at_call 6; refine (zzModePerm_any _ _ _).mono ?_; rintro e w' ⟨rfl, c, rfl⟩) | (go_at_call 7; refine (zzModeSet_any _ _ _).mono ?_; rintro e w' ⟨rfl, c, rfl⟩))
  have hm : a0 % 512 % 512 = a0 % 512 := by omega
  go_region_held3 (fun w' => w'.cell? ⟨w.heap.size + 1 + 1, 0, none⟩ = some (.int .u32 (a0 % 512)) ∧ w'.cell? ⟨w.heap.size + 1 + 1, 1, none⟩ = some (.bool true)) (simp [go_sem, World.cell?_alloc_past])
    ((go_at_call 5; refine (zzModeOf_any (a0 % 512) (by omega) (by omega) _).mono ?_; rintro e w' ⟨rfl, o1, o2, rfl⟩))
  go_wp2
  go_ret
  exact ⟨rfl, by repeat (first | exact Grown.refl _ | apply Grown.drew | apply Grown.alloc)⟩

/-! ### THE ROW's STEP: WRITTEN OUT: LEAVE IT -/
set_option maxRecDepth 100000 in
theorem lifted (os : Os) (started : os.Started) (H : Type) (enc : TypeId × Value → H) :
    ReturnsInHanded {} Try.checked os 4 .any (Rows.fnModeOfComplementSplitsThePermBitsSpec.pre6 enc Try.prog Try.f4 Rows.fnModeOfComplementSplitsThePermBitsRow.domain false) (Rows.fnModeOfComplementSplitsThePermBitsSpec.post enc Try.prog Try.f4 false true false false) := by
  refine returnsInHanded_of_change (C := Try.checked) own started (by kernel_rfl) Try.func4
    (ChangeSpec.witness6 (enc := enc) (C := Try.checked) false ⟨#[], #[.int .u32 0], []⟩ 8 (by kernel_rfl) (by kernel_rfl) (by kernel_rfl) (by kernel_rfl)) ?_
  intro W base args ds gs before hval0 hW hcnd _
  have hval : ∀ (j : Nat) t v, Try.f4.params[j]? = some t → args[j]? = some v → Value.okWide Try.prog W .any base t v := hval0
  have hW' := hW
  obtain ⟨p, q, hA0, hV, rfl, hfz, hnd⟩ := hW
  have hA : DataW.TrodAll enc Try.prog W 0 (fun _ => true) true Try.f4.params.toList args.toList ds p := hA0
  rw [Try.params4] at hA hval
  obtain ⟨v0, vs0, d0, ds0, p0, q0, hargs, rfl, rfl, h0, r0⟩ := trodAll_cons hA
  obtain ⟨rfl, rfl, rfl⟩ := trodAll_nil r0
  obtain rfl : args = #[v0] := by cases args; simp_all
  obtain ⟨rfl, rfl⟩ := trodVars_none hV
  obtain ⟨a0, rfl, rfl, rfl, w0⟩ := open_int Try.underlying22 (hval 0 22 v0 rfl rfl) h0
  clear hA0 hval0
  simp only [List.append_nil] at hW'
  refine (walk a0 w0 W).mono fun e W' ⟨he, hg⟩ => ?_
  subst he
  exact ⟨_, rfl, post_of_same (pa := []) (pv := []) hW' (fun _ _ _ => (trodAll_cons_mk (shut_bool Try.underlying4 _) trodAll_mk0)) (fun sp _ => (trodAll_cons_mk (shut_int Try.underlying22 w0) trodAll_mk0)) (fun _ _ => rfl) rfl
    (hg.frame _) hg.2.1 (ok_one (by kernel_rfl) rfl (okWide_bool_mk Try.underlying4 _))⟩

theorem over : Rows.fnModeOfComplementSplitsThePermBitsRow.holds Try.pinned (OpenSpec.ofChange Rows.fnModeOfComplementSplitsThePermBitsSpec) :=
  OpenClaim.holds_of_wide 4 Try.f4 rfl rfl rfl rfl rfl rfl rfl ⟨rfl, rfl, rfl, rfl, rfl⟩ rfl rfl rfl rfl rfl (by kernel_rfl) Try.func4 (by kernel_rfl)
    (of_decide_eq_true (by kernel_rfl)) (by unfold Func.isWrapper; first | (rw [if_pos (by decide +kernel)]; kernel_rfl) | (rw [if_neg (by decide +kernel)]; exact ⟨rfl, rfl⟩))
    (fun os started H enc _ => lifted os started H enc)

/-- ████ THE STATEMENT ████ -/
theorem proved : Rows.FnModeOfComplementSplitsThePermBitsSaid :=
  over
end Go.Proofs.Qxb6618576a.fnModeOfComplementSplitsThePermBits

namespace Go.Proofs.Qxb6618576a
/-- The statement, under a short name of the seat's own namespace. -/
theorem fnModeOfComplement_proved : Rows.FnModeOfComplementSplitsThePermBitsSaid := fnModeOfComplementSplitsThePermBits.proved
end Go.Proofs.Qxb6618576a
