/- The law FnGrantOfAnswerIsTheLiveGrant at every input, and its row. -/
import Derived.Test.Qxb6618594aLaw8
import Derived.Test.Qxb6618594aGrants
namespace Go.Proofs.Qxb6618594a
open Go.ChangeShapes Go.WideShapes Go.ChangeAt Go.RowKit

set_option maxRecDepth 100000 in
set_option maxHeartbeats 1000000 in
/-- More grants than ids: true at once. -/
theorem law8_out (ao : Option Addr) (n cap : Nat) (q p mo ru : Int) (w : World) (hl : n ≤ 140737488351232) (h : ¬ n ≤ 65536) :
    Calls Try.prog 8 #[.slice ao n cap, .int .u16 q, .int .u16 p, .int .u8 mo, .int .i64 ru] w fun e w' => e = .returned (.bool true) ∧ Below w.heap.size w w' := by
  have hb := bound8 ao n cap q p mo ru w hl
  have h' : (65536 : Int) < (n : Int) := by omega
  by_cases c1 : n ≤ 1048576
  · have hd : decide (n ≤ 1048576) = true := by simp [c1]
    rw [hd] at hb
    clear hd c1 h
    go_enter Try.func8, Try.ntmps8
    go_wp2_with (go_at_call 30; refine hb.mono ?_; rintro e w' ⟨rfl, rfl⟩)
    go_ret
    exact ⟨rfl, Below.refl _ _⟩
  · have hd : decide (n ≤ 1048576) = false := by simp [c1]
    rw [hd] at hb
    clear hd c1 h
    go_enter Try.func8, Try.ntmps8
    go_wp2_with (go_at_call 30; refine hb.mono ?_; rintro e w' ⟨rfl, rfl⟩)
    go_ret
    exact ⟨rfl, Below.refl _ _⟩

theorem law8 (ao : Option Addr) (n cap : Nat) (q p mo ru : Int) (tx : Nat → Nat) (md rn : Nat → Int) (w : World) (hl : n ≤ 140737488351232) (hG : Grants w ao n tx md rn) (htx : ∀ j, j < n → tx j < 65536) (hq0 : 0 ≤ q) (hq1 : q ≤ 65535) (hp0 : 0 ≤ p) (hp1 : p ≤ 65535) :
    Calls Try.prog 8 #[.slice ao n cap, .int .u16 q, .int .u16 p, .int .u8 mo, .int .i64 ru] w fun e w' => e = .returned (.bool true) ∧ Below w.heap.size w w' := by
  by_cases h : n ≤ 65536
  · obtain ⟨k, rfl⟩ := Int.eq_ofNat_of_zero_le hq0
    obtain ⟨j, rfl⟩ := Int.eq_ofNat_of_zero_le hp0
    exact law8_in ao n cap k j mo ru tx md rn w hG h htx (by omega) (by omega)
  · exact law8_out ao n cap q p mo ru w hl h

set_option maxRecDepth 100000 in
theorem lifted8 (os : Os) (started : os.Started) (H : Type) (enc : TypeId × Value → H) :
    ReturnsInHanded {} Try.checked os 8 .any (Rows.fnGrantOfAnswerIsTheLiveGrantSpec.pre6 enc Try.prog Try.f8 Rows.fnGrantOfAnswerIsTheLiveGrantRow.domain false) (Rows.fnGrantOfAnswerIsTheLiveGrantSpec.post enc Try.prog Try.f8 false true false false) := by
  refine returnsInHanded_of_change_sized (C := Try.checked) own started (by kernel_rfl) Try.func8
    (ChangeSpec.witness6 (enc := enc) (C := Try.checked) false ⟨#[], #[.slice none 0 0, .int .u16 0, .int .u16 0, .int .u8 0, .int .i64 0], []⟩ 8 (by kernel_rfl) (by kernel_rfl) (by kernel_rfl) (by kernel_rfl)) ?_
  intro W base args ds gs before hval0 hW hcnd hsz0 _
  have hval : ∀ (j : Nat) t v, Try.f8.params[j]? = some t → args[j]? = some v → Value.okWide Try.prog W .any base t v := hval0
  have hsz : (DataW.weightsEach Try.prog (Try.f8.params.toList ++ Rows.fnGrantOfAnswerIsTheLiveGrantSpec.plain.varTypes Try.prog) (ds ++ gs)).all (· ≤ reachBytes) = true := hsz0
  have hW' := hW
  obtain ⟨p, q, hA0, hV, rfl, hfz, hnd⟩ := hW
  have hA : DataW.TrodAll enc Try.prog W 0 (fun _ => true) true Try.f8.params.toList args.toList ds p := hA0
  rw [Try.params8] at hA hval hsz
  obtain ⟨v0, vs0, d0, ds0, p0, q0, hargs, rfl, rfl, h0, r0⟩ := trodAll_cons hA
  obtain ⟨v1, vs1, d1, ds1, p1, q1, rfl, rfl, rfl, h1, r1⟩ := trodAll_cons r0
  obtain ⟨v2, vs2, d2, ds2, p2, q2, rfl, rfl, rfl, h2, r2⟩ := trodAll_cons r1
  obtain ⟨v3, vs3, d3, ds3, p3, q3, rfl, rfl, rfl, h3, r3⟩ := trodAll_cons r2
  obtain ⟨v4, vs4, d4, ds4, p4, q4, rfl, rfl, rfl, h4, r4⟩ := trodAll_cons r3
  obtain ⟨rfl, rfl, rfl⟩ := trodAll_nil r4
  obtain rfl : args = #[v0, v1, v2, v3, v4] := by cases args; simp_all
  obtain ⟨rfl, rfl⟩ := trodVars_none hV
  have k0 := h0
  have lt0 : ∀ x ∈ p0, x.block < W.heap.size := by obtain ⟨m, hm⟩ := k0; exact DataW.trod_lt m _ _ _ hm
  obtain ⟨ao, len, cap, tx, md, rn, rfl, hlen, hG, htx⟩ := opened_grants (hval 0 49 v0 rfl rfl) h0 (fun elems spare e => by
    subst e
    have := sized_slice hsz (j := 0) (t := 49) (e := 54) rfl rfl Try.underlying49
    rw [bytes54] at this
    simp only [reachBytes] at this
    omega)
  obtain ⟨a1, rfl, rfl, rfl, w1⟩ := open_int Try.underlying50 (hval 1 50 v1 rfl rfl) h1
  obtain ⟨a2, rfl, rfl, rfl, w2⟩ := open_int Try.underlying50 (hval 2 50 v2 rfl rfl) h2
  obtain ⟨a3, rfl, rfl, rfl, w3⟩ := open_int Try.underlying5 (hval 3 5 v3 rfl rfl) h3
  obtain ⟨a4, rfl, rfl, rfl, w4⟩ := open_int Try.underlying3 (hval 4 3 v4 rfl rfl) h4
  obtain ⟨b0, b1⟩ := bounds_u16 w1
  obtain ⟨c0, c1⟩ := bounds_u16 w2
  clear hA0 hval0 hsz0
  refine (law8 ao len cap a1 a2 a3 a4 tx md rn W hlen hG htx b0 b1 c0 c1).mono fun e W' ⟨he, bel⟩ => ?_
  subst he
  exact ⟨_, rfl, _, _, _, [], _, [], hW', trodAll_mk1 (shut_bool Try.underlying4 _), (trodAll_cons_mk (Below.trod laidOut (by kernel_rfl) (of_decide_eq_true (by kernel_rfl)) k0 bel lt0) (trodAll_cons_mk (shut_int Try.underlying50 w1) (trodAll_cons_mk (shut_int Try.underlying50 w2) (trodAll_cons_mk (shut_int Try.underlying5 w3) (trodAll_cons_mk (shut_int Try.underlying3 w4) trodAll_mk0))))), rfl, bel.frame _, fun h => by cases h⟩

theorem fnGrantOfAnswer_proved : Rows.FnGrantOfAnswerIsTheLiveGrantSaid :=
  OpenClaim.holds_of_wide 8 Try.f8 rfl rfl rfl rfl rfl rfl rfl ⟨rfl, rfl, rfl, rfl, rfl⟩ rfl rfl rfl rfl rfl (by kernel_rfl) Try.func8 (by kernel_rfl)
    (of_decide_eq_true (by kernel_rfl)) (by unfold Func.isWrapper; first | (rw [if_pos (by decide +kernel)]; kernel_rfl) | (rw [if_neg (by decide +kernel)]; exact ⟨rfl, rfl⟩))
    (fun os started H enc _ => lifted8 os started H enc)
end Go.Proofs.Qxb6618594a
