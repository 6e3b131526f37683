/- The contracts of the small functions on the road of the two laws on ModeOf: each computes a plain function. -/
import Derived.Test.Qxb6618576aRows
import Derived.WalkKit
import Derived.ProofKit
namespace Go.Proofs.Qxb6618576a
open Go.ChangeShapes Go.WideShapes Go.ChangeAt Go.RowKit

/-- The mask of the permission bits is the remainder by 512. -/
theorem perm_mask (m : Int) (h0 : 0 ≤ m) (h1 : m < 4294967296) : bits .and .u32 m 511 = m % 512 :=
  bits_mask .u32 32 (by decide) (fun n h h' => by rw [IntKind.wrap_u32]; omega) 9 (by decide) m h0 (by omega)

/-- (io/fs.FileMode).Perm -/
theorem perm_any (m : Int) (h0 : 0 ≤ m) (h1 : m < 4294967296) (w : World) :
    Calls Try.prog 9 #[.int .u32 m] w fun e w' => e = .returned (.int .u32 (m % 512)) ∧ w' = w := by
  have hb := perm_mask m h0 h1
  go_enter Try.func9, Try.ntmps9
  go_wp2
  go_ret
  exact ⟨rfl, rfl⟩

/-- api.ModeOf -/
theorem modeOf_any (m : Int) (h0 : 0 ≤ m) (h1 : m < 4294967296) (w : World) :
    Calls Try.prog 8 #[.int .u32 m] w fun e w' => e = .returned (.agg #[.int .u32 (m % 512), .bool true]) ∧ ∃ c : Array Value, w' = w.alloc (.cells c 25) := by
  go_enter Try.func8, Try.ntmps8
  go_wp2_with (go_at_call 9; refine (perm_any m h0 h1 _).mono ?_; rintro e w' ⟨rfl, rfl⟩)
  simp [bodyPost, results, Try.results8, go_sem]
  exact ⟨_, rfl⟩

/-- api.ZZModeOf -/
theorem zzModeOf_any (m : Int) (h0 : 0 ≤ m) (h1 : m < 4294967296) (w : World) :
    Calls Try.prog 5 #[.int .u32 m] w fun e w' => e = .returned (.agg #[.int .u32 (m % 512), .bool true]) ∧ ∃ c c' : Array Value, w' = (w.alloc (.cells c 25)).alloc (.cells c' 25) := by
  go_enter Try.func5, Try.ntmps5
  go_wp2_with (go_at_call 8; refine (modeOf_any m h0 h1 _).mono ?_; rintro e w' ⟨rfl, c, rfl⟩)
  simp [bodyPost, results, Try.results5, go_sem]
  exact ⟨_, _, rfl⟩

/-- api.ZZModePerm -/
theorem zzModePerm_any (x : Int) (b : Bool) (w : World) :
    Calls Try.prog 6 #[.agg #[.int .u32 x, .bool b]] w fun e w' => e = .returned (.int .u32 x) ∧ ∃ c : Array Value, w' = w.alloc (.cells c 25) := by
  go_enter Try.func6, Try.ntmps6
  go_wp2
  go_ret
  exact ⟨rfl, _, rfl⟩

/-- api.ZZModeSet -/
theorem zzModeSet_any (x : Int) (b : Bool) (w : World) :
    Calls Try.prog 7 #[.agg #[.int .u32 x, .bool b]] w fun e w' => e = .returned (.bool b) ∧ ∃ c : Array Value, w' = w.alloc (.cells c 25) := by
  go_enter Try.func7, Try.ntmps7
  go_wp2
  go_ret
  exact ⟨rfl, _, rfl⟩

end Go.Proofs.Qxb6618576a
