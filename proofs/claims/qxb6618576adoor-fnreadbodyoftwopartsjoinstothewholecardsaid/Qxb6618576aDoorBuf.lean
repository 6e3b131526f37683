/- bytes.Buffer on the road of ReadBody: grow whether or not there is room; Grow. Out of the library's contracts (Qxb6618576aDoorShelf). -/
import Derived.Test.Qxb6618576aDoorShelf
import Derived.Test.Qxb6618576aDoorRows
import Derived.WalkKit
import Derived.ProofKit
import Derived.WalkSpells
namespace Go.Proofs.Qxb6618576aDoor
open Go.RowKit

/-- A buffer that holds more than nothing, laid open. -/
theorem opened {B b : Nat} {bs : List Value} {w : World} (h : Lib.IsBuffer 38 5 B b bs w) (hne : bs ≠ []) :
    B ≤ b ∧ ∃ lr g cap cur, w.heap[b]? = some (.cells #[.slice (some ⟨g, 0, none⟩) bs.length cap, .int .i64 0, .int .i8 lr] 38 (0, 0)) ∧ B ≤ g ∧ w.heap[g]? = some (.cells cur 5 (0, 0)) ∧ bs.length ≤ cap ∧ cap ≤ maxLen ∧ cur.size = cap ∧ cur.toList.take bs.length = bs ∧ g ≠ b := by
  obtain ⟨hB, lr, hc⟩ := h.cases
  rcases hc with ⟨rfl, _⟩ | ⟨g, cap, cur, hr⟩
  · exact absurd rfl hne
  · exact ⟨hB, lr, g, cap, cur, hr⟩

/-- grow, at a number that is not 0. -/
theorem grow_any (B b n : Nat) (bs : List Value) (w : World) (h : Lib.IsBuffer 38 5 B b bs w) (hn : 1 ≤ n) (hBw : B ≤ w.heap.size) (h1 : ∀ v ∈ bs, v.oneCell' = true) (hlim : bs.length + n ≤ 140737488355328) :
    Calls Tryd.prog 14 #[.pointer (some ⟨b, 0, none⟩), .int .i64 n] w fun e w' => e = .returned (.int .i64 bs.length) ∧ ∃ xs, xs.length = n ∧ Lib.IsBuffer 38 5 B b (bs ++ xs) w' ∧ Below B w w' ∧ w.grownBy w' (some b) := by
  obtain ⟨hB, lr, hc⟩ := h.cases
  rcases hc with ⟨rfl, hbk⟩ | ⟨g, cap, cur, hbk, hBg, hg, hnc, hcm, hcs, htk, hgb⟩
  · have c0 : w.cell? ⟨b, 0, none⟩ = some (.slice none 0 0) := by rw [Lib.cell_of_heap hbk]; rfl
    refine (Tryd.Buffer_grow_own B b n [] w h ⟨none, 0, 0, c0, by omega⟩ hBw h1 hlim).mono ?_
    rintro e w' ⟨rfl, xs, hx, hI, hb, _, hg⟩
    exact ⟨rfl, xs, hx, hI, hb, hg⟩
  · have c0 : w.cell? ⟨b, 0, none⟩ = some (.slice (some ⟨g, 0, none⟩) bs.length cap) := by rw [Lib.cell_of_heap hbk]; rfl
    by_cases hr : n ≤ cap - bs.length
    · have c1 : w.cell? ⟨b, 1, none⟩ = some (.int .i64 0) := by rw [Lib.cell_of_heap hbk]; rfl
      have f0 := Lib.frozen_of_heap hbk 0
      have HE : Hid (∃ xs, xs.length = n ∧ Lib.IsBuffer 38 5 B b (bs ++ xs) (w.setCell ⟨b, 0, none⟩ (.slice (some ⟨g, 0, none⟩) (bs.length + n) cap)) ∧ Below B w (w.setCell ⟨b, 0, none⟩ (.slice (some ⟨g, 0, none⟩) (bs.length + n) cap))) :=
        Lib.room_end hB hbk hBg hg hcm hcs htk hgb (by omega)
      have HI : Hid (Lib.IsBuffer 38 5 B b bs w) := h
      have hcm' := hcm
      unfold maxLen at hcm'
      generalize hL : bs.length = l at *
      clear h hg htk h1 hbk
      have HL : Hid (bs.length = l) := hL
      clear hL
      by_cases hl0 : l = 0
      all_goals
        have hl1 : ((l : Int) == 0) = decide (l = 0) := by by_cases h : l = 0 <;> simp [h]
        simp only [hl0, decide_true, decide_false] at hl1
        go_enter Tryd.func14, Tryd.ntmps14
        go_wp2_with fail
        refine (Tryd.Buffer_Len B b bs _ HI.out).mono ?_
        rintro e w' ⟨rfl, k, rfl⟩
        rw [HL.out]
        go_wp2_with fail
        refine (Tryd.Buffer_tryGrow_room b (some ⟨g, 0, none⟩) l cap n (w.drewN k) c0 f0 hnc hcm hr).mono ?_
        rintro e w' ⟨rfl, hw⟩
        have HW : Hid (w' = (w.drewN k).setCell ⟨b, 0, none⟩ (.slice (some ⟨g, 0, none⟩) (l + n) cap)) := hw
        clear hw
        go_wp2
        go_ret
        rw [HW.out]
        refine ⟨by first | rfl | (rw [hl0]; rfl), ?_⟩
        obtain ⟨xs, hx, hI, hb⟩ := HE.out
        have hq := Lib.grownBy_setCell w b 0 (.slice (some ⟨g, 0, none⟩) (l + n) cap)
        exact ⟨xs, hx, hI, ⟨hb.os, hb.tape, hb.output, hb.size, hb.block⟩, ⟨hq.os, hq.tape, hq.output, hq.size, hq.block⟩⟩
    · refine (Tryd.Buffer_grow_own B b n bs w h ⟨_, _, _, c0, by omega⟩ hBw h1 hlim).mono ?_
      rintro e w' ⟨rfl, xs, hx, hI, hb, _, hg⟩
      exact ⟨rfl, xs, hx, hI, hb, hg⟩

/-- Grow, of a buffer that holds nothing yet. -/
theorem grow_empty (B b n : Nat) (w : World) (h : Lib.IsBuffer 38 5 B b [] w) (hn : 1 ≤ n) (hBw : B ≤ w.heap.size) (hlim : n ≤ 1000000) :
    Calls Tryd.prog 11 #[.pointer (some ⟨b, 0, none⟩), .int .i64 n] w fun e w' => e = .returned (.tuple #[]) ∧ Lib.IsBuffer 38 5 B b [] w' ∧ Below B w w' := by
  have hn0 : (0 : Int) ≤ (n : Int) := by omega
  go_enter Tryd.func11, Tryd.ntmps11
  go_wp2_with fail
  refine (grow_any B b n [] _ h hn hBw (by simp) (by simp; omega)).mono ?_
  rintro e w' ⟨rfl, xs, hx, hI, hb, _⟩
  rw [List.nil_append] at hI
  obtain ⟨hB, lr, g, cap, cur, hbk, hBg, hg, hnc, hcm, hcs, htk, hgb⟩ := opened hI (by intro e; rw [e] at hx; simp at hx; omega)
  rw [hx] at hbk hnc
  have c0 : w'.cell? ⟨b, 0, none⟩ = some (.slice (some ⟨g, 0, none⟩) n cap) := by rw [Lib.cell_of_heap hbk]; rfl
  have f0 := Lib.frozen_of_heap hbk 0
  have hcm' := hcm
  unfold maxLen at hcm'
  have HE : Hid (Lib.IsBuffer 38 5 B b [] (w'.setCell ⟨b, 0, none⟩ (.slice (some ⟨g, 0, none⟩) 0 cap)) ∧ Below B w (w'.setCell ⟨b, 0, none⟩ (.slice (some ⟨g, 0, none⟩) 0 cap))) :=
    ⟨Lib.isBuffer_mk (n := 0) (T := 38) (lr := lr) hB (Lib.heap_setCell_same (i := 0) hbk _) hBg (by rw [Below.heap_setCell _ _ _ _ hgb]; exact hg) (Nat.zero_le _) hcm hcs hgb, hb.setCell (p := ⟨b, 0, none⟩) hB _⟩
  clear hg htk hbk hI hb
  go_wp2
  go_end0
  exact ⟨rfl, HE.out.1, HE.out.2⟩
end Go.Proofs.Qxb6618576aDoor
