/- The plain part of the two laws on grantOf: which grant a transaction's id has; a row of cells told by a function. -/
import Derived.WalkKit
import Derived.Lib.BufferWrite
namespace Go.Proofs.Qxb6618594a
open Go.RowKit

/-- What 'at' holds at id behind k rounds: one more than the last place below k where id stands; 0 if it stands nowhere. -/
def atF (tx : Nat → Nat) : Nat → Nat → Nat
  | 0, _ => 0
  | k + 1, id => if tx k = id then k + 1 else atF tx k id
theorem atF_le (tx : Nat → Nat) (k id : Nat) : atF tx k id ≤ k := by
  induction k with
  | zero => exact Nat.le_refl _
  | succ k ih => rw [atF]; split <;> omega
theorem atF_zero (tx : Nat → Nat) (k id : Nat) (h : atF tx k id = 0) (j : Nat) (hj : j < k) : tx j ≠ id := by
  induction k with
  | zero => omega
  | succ k ih =>
    rw [atF] at h
    split at h
    · omega
    · rename_i hne
      rcases Nat.lt_succ_iff_lt_or_eq.1 hj with h' | rfl
      · exact ih h h'
      · exact hne
theorem atF_pos (tx : Nat → Nat) (k id m : Nat) (h : atF tx k id = m + 1) : m < k ∧ tx m = id := by
  induction k with
  | zero => cases h
  | succ k ih =>
    rw [atF] at h
    split at h
    · rename_i he; obtain rfl : k = m := by omega
      exact ⟨by omega, he⟩
    · obtain ⟨a, b⟩ := ih h; exact ⟨by omega, b⟩
/-- The first k ids are distinct. -/
def Dist (tx : Nat → Nat) (k : Nat) : Prop := ∀ i j, i < k → j < k → tx i = tx j → i = j
theorem dist_zero (tx : Nat → Nat) : Dist tx 0 := fun _ _ h => by omega
theorem dist_succ {tx : Nat → Nat} {k : Nat} (h : Dist tx k) (h0 : atF tx k (tx k) = 0) : Dist tx (k + 1) := by
  intro i j hi hj e
  rcases Nat.lt_succ_iff_lt_or_eq.1 hi with hi | rfl <;> rcases Nat.lt_succ_iff_lt_or_eq.1 hj with hj | rfl
  · exact h i j hi hj e
  · exact absurd e (atF_zero tx _ _ h0 i hi)
  · exact absurd e.symm (atF_zero tx _ _ h0 j hj)
  · rfl
theorem atF_at {tx : Nat → Nat} {n : Nat} (h : Dist tx n) (j : Nat) (hj : j < n) : atF tx n (tx j) = j + 1 := by
  cases hm : atF tx n (tx j) with
  | zero => exact absurd rfl (atF_zero tx n _ hm j hj)
  | succ m =>
    obtain ⟨a, b⟩ := atF_pos tx n _ m hm
    rw [h m j a hj b]

/-- A row of N cells of type t in block A, told by a function. -/
def RowIs (N : Nat) (w : World) (A : Nat) (t : TypeId) (f : Nat → Value) : Prop := ∃ cur : Array Value, cur.size = N ∧ w.heap[A]? = some (.cells cur t (0, 0)) ∧ ∀ i, i < N → cur[i]? = some (f i)
theorem RowIs.cell {N : Nat} {w : World} {A : Nat} {t : TypeId} {f : Nat → Value} (h : RowIs N w A t f) (i : Nat) (hi : i < N) : w.cell? ⟨A, i, none⟩ = some (f i) := by
  obtain ⟨cur, _, hg, hc⟩ := h
  rw [Lib.cell_of_heap hg]; exact hc i hi
theorem RowIs.free {N : Nat} {w : World} {A : Nat} {t : TypeId} {f : Nat → Value} (h : RowIs N w A t f) (i : Nat) : w.frozen? ⟨A, i, none⟩ = false := by
  obtain ⟨cur, _, hg, _⟩ := h
  exact Lib.frozen_of_heap hg i
theorem RowIs.lt {N : Nat} {w : World} {A : Nat} {t : TypeId} {f : Nat → Value} (h : RowIs N w A t f) : A < w.heap.size := by
  obtain ⟨cur, _, hg, _⟩ := h
  exact Lib.lt_of_heap hg
theorem RowIs.kept {N : Nat} {w w' : World} {A : Nat} {t : TypeId} {f : Nat → Value} (h : RowIs N w A t f) (he : w'.heap[A]? = w.heap[A]?) : RowIs N w' A t f := by
  obtain ⟨cur, a, hg, b⟩ := h
  exact ⟨cur, a, he.trans hg, b⟩
theorem RowIs.congr {N : Nat} {w : World} {A : Nat} {t : TypeId} {f g : Nat → Value} (h : RowIs N w A t f) (hf : ∀ i, i < N → f i = g i) : RowIs N w A t g := by
  obtain ⟨cur, a, hg, b⟩ := h
  exact ⟨cur, a, hg, fun i hi => by rw [b i hi, hf i hi]⟩
theorem RowIs.set {N : Nat} {w : World} {A : Nat} {t : TypeId} {f : Nat → Value} (h : RowIs N w A t f) (id : Nat) (v : Value) : RowIs N (w.setCell ⟨A, id, none⟩ v) A t (fun i => if id = i then v else f i) := by
  obtain ⟨cur, a, hg, b⟩ := h
  refine ⟨cur.setIfInBounds id v, by simpa using a, Lib.heap_setCell_same (i := id) hg v, fun i hi => ?_⟩
  rw [Array.getElem?_setIfInBounds]
  split
  · rename_i e; subst e
    rw [if_pos (by omega)]
    show some v = some (if id = id then v else f id)
    rw [if_pos rfl]
  · rename_i e
    show cur[i]? = some (if id = i then v else f i)
    rw [if_neg e]; exact b i hi
theorem made_at (z : Value) (hz : z.cells = #[z]) (n i : Nat) (h : i < n) : (madeCells z.cells n).toList[i]? = some z := by
  rw [hz, Array.getElem?_toList]
  unfold madeCells
  rw [Array.getElem?_map, Array.getElem?_range, if_pos h]
  simp
  rw [Nat.mod_one]; rfl
theorem RowIs.made {N : Nat} {w : World} {base A : Nat} {t : TypeId} {z : Value} (hz : z.cells = #[z]) (h : w.ownsRow base t 1 (.slice (some ⟨A, 0, none⟩) N N) N (madeCells z.cells (N * 1)).toList) : RowIs N w A t (fun _ => z) := by
  rcases h.2 with ⟨h, _⟩ | ⟨g, cap, cur, he, _, hg, _, _, hcs, htk⟩
  · cases h
  · injection he with h1 h2 h3
    injection h1 with h1
    injection h1 with h1
    subst h1; subst h3
    refine ⟨cur, by simpa using hcs, hg, fun i hi => ?_⟩
    have h1 : (cur.toList.take (N * 1))[i]? = (madeCells z.cells (N * 1)).toList[i]? := by rw [htk]
    rw [List.getElem?_take, if_pos (by omega), made_at z hz (N * 1) i (by omega)] at h1
    simpa using h1
/-- The transaction that 'pool' holds for the mark m of 'at': the block of the m-th new transaction, from S on. -/
def pp (S : Nat) : Nat → Option Addr
  | 0 => none
  | m + 1 => some ⟨S + m, 0, none⟩
theorem at_step {N : Nat} {w : World} {A k : Nat} {tx : Nat → Nat} (h : RowIs N w A 3 (fun id => .int .i64 (atF tx k id : Int))) :
    RowIs N (w.setCell ⟨A, tx k, none⟩ (.int .i64 ((k : Int) + 1))) A 3 (fun id => .int .i64 (atF tx (k + 1) id : Int)) :=
  (h.set (tx k) (.int .i64 ((k : Int) + 1))).congr fun i _ => by
    rw [atF]
    split <;> simp
theorem pool_step {N : Nat} {w : World} {A k S : Nat} {tx : Nat → Nat} (h : RowIs N w A 56 (fun id => .pointer (pp S (atF tx k id)))) (hs : w.heap.size = S + k) (o : Obj) :
    RowIs N ((w.setCell ⟨A, tx k, none⟩ (.pointer (some ⟨w.heap.size, 0, none⟩))).alloc o) A 56 (fun id => .pointer (pp S (atF tx (k + 1) id))) := by
  refine ((h.set (tx k) (.pointer (some ⟨w.heap.size, 0, none⟩))).congr fun i _ => ?_).kept (Below.heap_alloc _ _ _ (by have := h.lt; simpa using this))
  rw [atF]
  split
  · rw [hs]; rfl
  · rfl
theorem pool_rest {w w2 : World} {P S k id : Nat} {c : Array Value} {v : Value} (hs : w.heap.size = S + k) (hT : ∀ j, j < k → ∃ c, w.heap[S + j]? = some (.cells c 70 (0, 0))) (hb : Below P w2 w) (hP : P < S) :
    ((w.setCell ⟨P, id, none⟩ v).alloc (.cells c 70)).heap.size = S + (k + 1) ∧ (∀ j, j < k + 1 → ∃ c', ((w.setCell ⟨P, id, none⟩ v).alloc (.cells c 70)).heap[S + j]? = some (.cells c' 70 (0, 0))) ∧ Below P w2 ((w.setCell ⟨P, id, none⟩ v).alloc (.cells c 70)) := by
  have hsz : (w.setCell ⟨P, id, none⟩ v).heap.size = S + k := by simpa using hs
  refine ⟨by simp [hsz]; omega, fun j hj => ?_, (hb.setCell (p := ⟨P, id, none⟩) (Nat.le_refl _) v).alloc (by rw [hsz]; omega) _⟩
  rcases Nat.lt_succ_iff_lt_or_eq.1 hj with h | rfl
  · obtain ⟨c', hc⟩ := hT j h
    refine ⟨c', (Below.heap_alloc _ _ _ (by rw [hsz]; omega)).trans ((Below.heap_setCell _ _ _ _ ?_).trans hc)⟩
    show S + j ≠ P
    omega
  · refine ⟨c, ?_⟩
    have := heap_alloc_new (w.setCell ⟨P, id, none⟩ v) (.cells c 70)
    rw [hsz] at this
    exact this
end Go.Proofs.Qxb6618594a
