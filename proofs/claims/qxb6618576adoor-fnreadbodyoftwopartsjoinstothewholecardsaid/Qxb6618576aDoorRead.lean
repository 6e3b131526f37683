/- (*bytes.Reader).Read, whole: at the end (io.EOF), and ahead of it. -/
import Derived.Test.Qxb6618576aDoorBuf
import Derived.Laws.CopyOwn
import Derived.Deep.RegionHeld3
import Derived.BigQuiet
import Derived.Deep.QuietTactic
namespace Go.Proofs.Qxb6618576aDoor
open Go.RowKit

set_option maxHeartbeats 1000000 in
/-- At the end of the bytes: 0 and what io.EOF holds; nothing turns. -/
theorem read_end (R n cp : Nat) (ao : Option Addr) (pr : Int) (dv ev : Value) (w : World)
    (hR : w.heap[R]? = some (.cells #[.slice ao n cp, .int .i64 (n : Int), .int .i64 pr] 44 (0, 0))) (hev : w.cell? ⟨1, 0, none⟩ = some ev) :
    Calls Tryd.prog 36 #[.pointer (some ⟨R, 0, none⟩), dv] w fun e w' => e = .returned (.tuple #[.int .i64 0, ev]) ∧ ∃ q, w' = w.drewN q := by
  have c0 : w.cell? ⟨R, 0, none⟩ = some (.slice ao n cp) := by rw [Lib.cell_of_heap hR]; rfl
  have c1 : w.cell? ⟨R, 1, none⟩ = some (.int .i64 (n : Int)) := by rw [Lib.cell_of_heap hR]; rfl
  clear hR
  go_enter Tryd.func36, Tryd.ntmps36
  go_wp2_with fail
  go_quiet (fail)
  go_wp2
  go_quiet (fail)
  go_wp2
  go_ret2
  exact ⟨rfl, _, World.drewN_drewN _ _ _⟩

theorem size5 : (Tryd.prog.info? 5).map (·.size) = some 1 := by kernel_rfl
set_option maxHeartbeats 1000000 in
/-- Ahead of the end: as many bytes as are left or as there is room for, 'ms', go over into the row. -/
theorem read_core (R n cp k d off g o L C : Nat) (pr : Int) (ms : List Value) (cur : List Value) (w : World)
    (hR : w.heap[R]? = some (.cells #[.slice (some ⟨d, off, none⟩) n cp, .int .i64 (k : Int), .int .i64 pr] 44 (0, 0)))
    (hk : k < n) (hncp : n ≤ cp) (hcp : cp ≤ 140737488351232) (hm : ms.length = Nat.min (n - k) L) (h1 : ∀ v ∈ ms, v.oneCell' = true) (hsrc : ∀ j v, ms[j]? = some v → w.cell? ⟨d, off + k + j, none⟩ = some v)
    (hg : w.heap[g]? = some (.cells cur.toArray 5 (0, 0))) (hgR : R < g) (hdR : d < R) (hfit : o + L ≤ cur.length) :
    Calls Tryd.prog 36 #[.pointer (some ⟨R, 0, none⟩), .slice (some ⟨g, o, none⟩) L C] w fun e w' => e = .returned (.tuple #[.int .i64 (ms.length : Int), .nilIface]) ∧
      w'.heap[g]? = some (.cells (splice cur o ms).toArray 5 (0, 0)) ∧ w'.heap[R]? = some (.cells #[.slice (some ⟨d, off, none⟩) n cp, .int .i64 ((k + ms.length : Nat) : Int), .int .i64 (-1)] 44 (0, 0)) ∧
      (∀ j, j < g → j ≠ R → w'.heap[j]? = w.heap[j]?) ∧ Below R w w' := by
  have c0 : w.cell? ⟨R, 0, none⟩ = some (.slice (some ⟨d, off, none⟩) n cp) := by rw [Lib.cell_of_heap hR]; rfl
  have c1 : w.cell? ⟨R, 1, none⟩ = some (.int .i64 (k : Int)) := by rw [Lib.cell_of_heap hR]; rfl
  have c2 : w.cell? ⟨R, 2, none⟩ = some (.int .i64 pr) := by rw [Lib.cell_of_heap hR]; rfl
  have f2 := Lib.frozen_of_heap hR 2
  have hk0 : (k : Int) < (n : Int) := by omega
  have hk1 : (0 : Int) ≤ (k : Int) := by omega
  have hk2 : (n : Int) ≤ (cp : Int) := by omega
  have hk3 : (cp : Int) ≤ 140737488351232 := by omega
  have hk4 : (k : Int) ≤ (n : Int) := by omega
  have hk5 : (k : Int) < (cp : Int) := by omega
  have hk6 : (k : Int) ≤ (cp : Int) := by omega
  have hk7 : k ≤ n := by omega
  have hk8 : k ≤ cp := by omega
  have hk9 : k < cp := by omega
  have hk10 : ¬ cp = k := by omega
  have hml : (ms.length : Int) ≤ (n : Int) - (k : Int) := by have : Nat.min (n - k) L ≤ n - k := Nat.min_le_left _ _; omega
  have hft : o + ms.length ≤ cur.length := by have : Nat.min (n - k) L ≤ L := Nat.min_le_right _ _; omega
  have HR : Hid (w.heap[R]? = some (.cells #[.slice (some ⟨d, off, none⟩) n cp, .int .i64 (k : Int), .int .i64 pr] 44 (0, 0))) := hR
  have HG : Hid (w.heap[g]? = some (.cells cur.toArray 5 (0, 0))) := hg
  have HS : Hid (∀ j v, ms[j]? = some v → w.cell? ⟨d, off + k + j, none⟩ = some v) := hsrc
  have H1 : Hid (∀ v ∈ ms, v.oneCell' = true) := h1
  have HM : Hid (ms.length = Nat.min (n - k) L) := hm
  clear hR hg hsrc h1 hm
  go_enter Tryd.func36, Tryd.ntmps36
  go_wp2_with fail
  go_quiet (fail)
  go_wp2
  have k0 := (Below.refl R w).setCell (p := ⟨R, 2, none⟩) (Nat.le_refl _) (.int .i64 (-1))
  have k1 : Below R w ((w.drewN nq).setCell ⟨R, 2, none⟩ (.int .i64 (-1))) := ⟨k0.os, k0.tape, k0.output, k0.size, k0.block⟩
  have k2 : ((w.drewN nq).setCell ⟨R, 2, none⟩ (.int .i64 (-1))).heap[R]? = some (.cells #[.slice (some ⟨d, off, none⟩) n cp, .int .i64 (k : Int), .int .i64 (-1)] 44 (0, 0)) :=
    Lib.heap_setCell_same (w := w.drewN nq) (i := 2) HR.out _
  have k3 : ∀ j, j ≠ R → ((w.drewN nq).setCell ⟨R, 2, none⟩ (.int .i64 (-1))).heap[j]? = w.heap[j]? := fun j hj => Below.heap_setCell (w.drewN nq) ⟨R, 2, none⟩ _ _ hj
  generalize (w.drewN nq).setCell ⟨R, 2, none⟩ (.int .i64 (-1)) = W1 at *
  have HB1 : Hid (Below R w W1) := k1
  have HR1 : Hid (W1.heap[R]? = some (.cells #[.slice (some ⟨d, off, none⟩) n cp, .int .i64 (k : Int), .int .i64 (-1)] 44 (0, 0))) := k2
  have HJ : Hid (∀ j, j ≠ R → W1.heap[j]? = w.heap[j]?) := k3
  have HG1 : Hid (W1.heap[g]? = some (.cells cur.toArray 5 (0, 0))) := (k3 g (by omega)).trans HG.out
  have HS1 : Hid (0 < ms.length → (some (⟨g, o, none⟩ : Addr)) = some ⟨g, o, none⟩ ∧ ∃ ad : Addr, some (⟨d, off + k, none⟩ : Addr) = some ad ∧ ∀ j v, ms[j]? = some v → W1.cell? (ad.add j) = some v) :=
    fun _ => ⟨rfl, _, rfl, fun j v hj => by rw [Lib.addr_add]; exact (k1.cell (p := ⟨d, off + k + j, none⟩) hdR).trans (HS.out j v hj)⟩
  have e0 : W1.cell? ⟨R, 0, none⟩ = some (.slice (some ⟨d, off, none⟩) n cp) := by rw [Lib.cell_of_heap k2]; rfl
  have e1 : W1.cell? ⟨R, 1, none⟩ = some (.int .i64 (k : Int)) := by rw [Lib.cell_of_heap k2]; rfl
  clear c0 c1 c2 f2 k0 k1 k2 k3 HS HG HR
  go_region_held3 (fun w' => w'.cell? ⟨R, 0, none⟩ = some (.slice (some ⟨d, off, none⟩) n cp) ∧ w'.cell? ⟨R, 1, none⟩ = some (.int .i64 (k : Int))) (first | exact ⟨e0, e1⟩ | exact ⟨(hb4.cell (p := ⟨R, 0, none⟩) hgR).trans e0, (hb4.cell (p := ⟨R, 1, none⟩) hgR).trans e1⟩)
    ((refine step_copy_splice (by rfl) (.tmp 20) (.tmp 29) 22 22 (by rfl) 5 Tryd.underlying22 size5 (some ⟨g, o, none⟩) (some ⟨d, off + k, none⟩) L C (n - k) (cp - k) (by rfl) (by rfl) g o cur 5 (by exact HG1.out) ms (by exact HM.out) (by exact HS1.out) hft (by exact H1.out) g W1 (by exact (Below.refl g W1).drew) (Nat.le_refl _) ?_; intro w4 hg4 hb4))
  have r4 : w4.heap[R]? = some (.cells #[.slice (some ⟨d, off, none⟩) n cp, .int .i64 (k : Int), .int .i64 (-1)] 44 (0, 0)) := (hb4.block R hgR).trans HR1.out
  have d1 : w4.cell? ⟨R, 1, none⟩ = some (.int .i64 (k : Int)) := by rw [Lib.cell_of_heap r4]; rfl
  have f1 := Lib.frozen_of_heap r4 1
  have HE : Hid ((w4.setCell ⟨R, 1, none⟩ (.int .i64 ((k : Int) + (ms.length : Int)))).heap[g]? = some (.cells (splice cur o ms).toArray 5 (0, 0)) ∧
      (w4.setCell ⟨R, 1, none⟩ (.int .i64 ((k : Int) + (ms.length : Int)))).heap[R]? = some (.cells #[.slice (some ⟨d, off, none⟩) n cp, .int .i64 ((k + ms.length : Nat) : Int), .int .i64 (-1)] 44 (0, 0)) ∧
      (∀ j, j < g → j ≠ R → (w4.setCell ⟨R, 1, none⟩ (.int .i64 ((k : Int) + (ms.length : Int)))).heap[j]? = w.heap[j]?) ∧ Below R w (w4.setCell ⟨R, 1, none⟩ (.int .i64 ((k : Int) + (ms.length : Int))))) := by
    refine ⟨(Below.heap_setCell _ _ _ _ (by show g ≠ R; omega)).trans hg4.out, ?_, fun j hj hjR => ?_, ?_⟩
    · rw [Lib.heap_setCell_same (i := 1) r4]; simp
    · exact (Below.heap_setCell _ _ _ _ hjR).trans ((hb4.block j hj).trans (HJ.out j hjR))
    · exact (HB1.out.trans (hb4.mono (by omega))).setCell (p := ⟨R, 1, none⟩) (Nat.le_refl _) _
  clear r4 hg4 hb4 HJ HB1 HR1 HG1 HS1 e0 e1
  go_wp2
  go_ret2
  exact ⟨rfl, HE.out.1, HE.out.2.1, HE.out.2.2.1, HE.out.2.2.2⟩
end Go.Proofs.Qxb6618576aDoor
