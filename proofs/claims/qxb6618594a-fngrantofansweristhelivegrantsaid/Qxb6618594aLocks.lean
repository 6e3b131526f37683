/- The lock of grants: ZZnewLock, ZZlockAddGrant, (*lock).grantOf, ZZgrantAt, ZZgrantFields, ZZsetGrant. -/
import Derived.Test.Qxb6618594aRows
import Derived.WalkKit
import Derived.ProofKit
import Derived.WalkSpells
import Derived.BigQuiet
import Derived.Deep.QuietTactic
import Derived.Deep.RegionHeld3
import Derived.Deep.AppendLies
import Derived.Lib.BufferWrite
import Derived.Lib.Hide
import Derived.LaidEqlPtr
import Derived.Lib.Builder
namespace Go.Proofs.Qxb6618594a
open Go.RowKit

/-- A lock's nine cells: all zero but for 'granted'. -/
def lockCells (v : Value) : Array Value := #[.pointer none, .int .u8 0, .int .i64 0, .string ⟨#[]⟩, v, .pointer none, .int .u8 0, .int .i64 0, .slice none 0 0]

theorem newLock_any (w : World) :
    Calls Try.prog 25 #[] w fun e w' => e = .returned (.pointer (some ⟨w.heap.size, 0, none⟩)) ∧ w' = w.alloc (.cells (lockCells (.slice none 0 0)) 95) := by
  go_enter Try.func25, Try.ntmps25
  go_wp2
  go_ret
  exact ⟨rfl, rfl⟩

theorem info91 : (Try.prog.info? 91).map (fun i => (i.zero, i.size, i.bytes)) = some (some (.agg #[.pointer none, .int .u8 0, .int .i64 0]), 3, 24) := by kernel_rfl

/-- A row of the lock's own lies behind the lock. -/
theorem own_far {w : World} {F n e s : Nat} {v : Value} {xs : List Value} (h : w.ownsRow (F + 1) e s v n xs) (k : Nat) (hk : k ≤ F) : v.ownBlock ≠ some k := by
  rcases h.2 with ⟨rfl, _⟩ | ⟨g, cap, cur, rfl, hb, _⟩
  · simp [Value.ownBlock]
  · simp only [Value.ownBlock, ne_eq, Option.some.injEq]; omega
theorem own_ne {w : World} {F n e s : Nat} {v : Value} {xs : List Value} (h : w.ownsRow (F + 1) e s v n xs) : v.ownBlock ≠ some F := own_far h F (Nat.le_refl _)

set_option maxRecDepth 100000 in
set_option maxHeartbeats 1000000 in
/-- ZZlockAddGrant: one grant more, at the end. -/
theorem add_any (F n : Nat) (v : Value) (xs : List Value) (tp : Option Addr) (md rn : Int) (w : World)
    (hF : w.heap[F]? = some (.cells (lockCells v) 95 (0, 0))) (hown : w.ownsRow (F + 1) 91 3 v n xs) (hn : n ≤ 65536) :
    Calls Try.prog 26 #[.pointer (some ⟨F, 0, none⟩), .pointer tp, .int .u8 md, .int .i64 rn] w fun e w' => e = .returned (.tuple #[]) ∧
      ∃ v', w'.heap[F]? = some (.cells (lockCells v') 95 (0, 0)) ∧ w'.ownsRow (F + 1) 91 3 v' (n + 1) (xs ++ [.pointer tp, .int .u8 md, .int .i64 rn]) ∧ Below F w w' := by
  obtain ⟨i0, hi0, hz0, hz1, hz2⟩ := info_parts info91
  have c4 : w.cell? ⟨F, 4, none⟩ = some v := by rw [Lib.cell_of_heap hF]; rfl
  have hFlt := Lib.lt_of_heap hF
  have HF := Lib.hid hF
  have HO := Lib.hid hown
  clear hF hown
  go_enter Try.func26, Try.ntmps26
  go_wp2_with (at_builtin; refine wpList_append_lies _ rfl (.tmp 12) (.tmp 17) 88 rfl (F + 1) 91 i0 _ 3 24 Try.underlying88 hi0 hz0 hz1 hz2 rfl (by omega) v n xs rfl (HO.out.alloc _) ⟨w.heap.size, 0, none⟩ 1 1 [.pointer tp, .int .u8 md, .int .i64 rn] rfl rfl (World.news_of_block (cs := #[.pointer tp, .int .u8 md, .int .i64 rn]) (t := 91) (fr := (0, 0)) (heap_alloc_new w _)) (by simp [Value.oneCell']) (by omega) (by unfold maxLen; omega) (by omega) (by simp; omega) (w.heap.size + 1) (by simp) ?_; intro g cap w1 hown1 hgrow hat hlt; refine Hid.out ?_)
  have hne := own_ne HO.out
  have hF1 : w1.heap[F]? = some (.cells (lockCells v) 95 (0, 0)) := (hgrow.block F (by simp; omega) (Ne.symm hne)).trans ((Below.heap_alloc w _ F hFlt).trans HF.out)
  have d4 : w1.cell? ⟨F, 4, none⟩ = some v := by rw [Lib.cell_of_heap hF1]; rfl
  have f4 := Lib.frozen_of_heap hF1 4
  have HE : Hid ((w1.setCell ⟨F, 4, none⟩ (.slice (some ⟨g, 0, none⟩) (n + 1) cap)).heap[F]? = some (.cells (lockCells (.slice (some ⟨g, 0, none⟩) (n + 1) cap)) 95 (0, 0)) ∧
      (w1.setCell ⟨F, 4, none⟩ (.slice (some ⟨g, 0, none⟩) (n + 1) cap)).ownsRow (F + 1) 91 3 (.slice (some ⟨g, 0, none⟩) (n + 1) cap) (n + 1) (xs ++ [.pointer tp, .int .u8 md, .int .i64 rn]) ∧
      Below F w (w1.setCell ⟨F, 4, none⟩ (.slice (some ⟨g, 0, none⟩) (n + 1) cap))) := by
    refine ⟨Lib.heap_setCell_same (i := 4) hF1 _, hown1.kept (Lib.grownBy_setCell w1 F 4 _) (Or.inr (own_ne hown1)), ?_⟩
    have h1 : Below F w w1 := ((Below.refl F w).alloc (by omega) _).trans ⟨hgrow.os, hgrow.tape, hgrow.output, hgrow.size, fun k hk => hgrow.block k (by simp; omega) (fun e => own_far HO.out k (by omega) e.symm)⟩
    exact h1.setCell (p := ⟨F, 4, none⟩) (Nat.le_refl _) _
  clear hF1 hown1 hgrow hat hlt hne
  refine Lib.hid ?_
  go_wp2
  go_end0
  exact ⟨rfl, _, HE.out.1, HE.out.2.1, HE.out.2.2⟩

/-- A grant: its transaction's block, its mode, its run. -/
abbrev Gr := Nat × Int × Int
def grCells (x : Gr) : List Value := [.pointer (some ⟨x.1, 0, none⟩), .int .u8 x.2.1, .int .i64 x.2.2]
def gcells (f : Nat → Gr) : Nat → List Value
  | 0 => []
  | n + 1 => gcells f n ++ grCells (f n)
theorem gcells_length (f : Nat → Gr) (n : Nat) : (gcells f n).length = n * 3 := by
  induction n with
  | zero => rfl
  | succ n ih => rw [gcells, List.length_append, ih]; simp [grCells]; omega
theorem gcells_get (f : Nat → Gr) (n j : Nat) (hj : j < n) : (gcells f n)[j * 3]? = some (.pointer (some ⟨(f j).1, 0, none⟩)) ∧ (gcells f n)[j * 3 + 1]? = some (.int .u8 (f j).2.1) ∧ (gcells f n)[j * 3 + 2]? = some (.int .i64 (f j).2.2) := by
  induction n with
  | zero => omega
  | succ n ih =>
    have hl := gcells_length f n
    by_cases h : j < n
    · obtain ⟨a, b, c⟩ := ih h
      rw [gcells]
      exact ⟨by rw [List.getElem?_append_left (by omega)]; exact a, by rw [List.getElem?_append_left (by omega)]; exact b, by rw [List.getElem?_append_left (by omega)]; exact c⟩
    · obtain rfl : j = n := by omega
      rw [gcells]
      refine ⟨?_, ?_, ?_⟩
      · rw [List.getElem?_append_right (by omega), hl, Nat.sub_self]; rfl
      · rw [List.getElem?_append_right (by omega), hl, Nat.add_sub_cancel_left]; rfl
      · rw [List.getElem?_append_right (by omega), hl, Nat.add_sub_cancel_left]; rfl
theorem gcells_congr (f g : Nat → Gr) (n : Nat) (h : ∀ j, j < n → f j = g j) : gcells f n = gcells g n := by
  induction n with
  | zero => rfl
  | succ n ih => rw [gcells, gcells, ih (fun j hj => h j (by omega)), h n (by omega)]

/-- What a lock holds: the slice's value written out, the row's cells. -/
def Holds (w : World) (F : Nat) (ao : Option Addr) (cap n : Nat) (f : Nat → Gr) : Prop :=
  w.heap[F]? = some (.cells (lockCells (.slice ao n cap)) 95 (0, 0)) ∧
  (0 < n → ∃ g cur, ao = some ⟨g, 0, none⟩ ∧ F < g ∧ w.heap[g]? = some (.cells cur 91 (0, 0)) ∧ ∀ j, j < n → w.cell? ⟨g, j * 3, none⟩ = some (.pointer (some ⟨(f j).1, 0, none⟩)) ∧ w.cell? ⟨g, j * 3 + 1, none⟩ = some (.int .u8 (f j).2.1) ∧ w.cell? ⟨g, j * 3 + 2, none⟩ = some (.int .i64 (f j).2.2))
theorem holds_of_own {w : World} {F n : Nat} {v : Value} {f : Nat → Gr} (hF : w.heap[F]? = some (.cells (lockCells v) 95 (0, 0))) (h : w.ownsRow (F + 1) 91 3 v n (gcells f n)) : ∃ ao cap, v = .slice ao n cap ∧ Holds w F ao cap n f := by
  rcases h.2 with ⟨rfl, rfl⟩ | ⟨g, cap, cur, rfl, hb, hg, _, _, _, htk⟩
  · exact ⟨none, 0, rfl, hF, fun h => by omega⟩
  · refine ⟨_, cap, rfl, hF, fun _ => ⟨g, cur, rfl, by omega, hg, fun j hj => ?_⟩⟩
    have hc : ∀ i x, (gcells f n)[i]? = some x → w.cell? ⟨g, i, none⟩ = some x := fun i x hx => by
      rw [Lib.cell_of_heap hg]
      rw [← htk, List.getElem?_take] at hx
      split at hx
      · simpa using hx
      · cases hx
    obtain ⟨a, b, c⟩ := gcells_get f n j hj
    exact ⟨hc _ _ a, hc _ _ b, hc _ _ c⟩

theorem size70 : (Try.prog.info? 70).map (·.size) = some 14 := by kernel_rfl
theorem size91 : (Try.prog.info? 91).map (·.size) = some 3 := by kernel_rfl
theorem tx_same (a : Addr) (w : World) : (binOp .eql 56 (.pointer (some a)) (.pointer (some a))).run Try.prog w = .ok (.bool true) w := by
  obtain ⟨j, hj, _⟩ := Option.map_eq_some_iff.1 size70
  exact run_eql_ptr_same w a Try.underlying56 hj
theorem tx_other (S T : Nat) (w : World) (c d : Array Value) (hne : S ≠ T) (hS : w.heap[S]? = some (.cells c 70 (0, 0))) (hT : w.heap[T]? = some (.cells d 70 (0, 0))) :
    (binOp .eql 56 (.pointer (some ⟨S, 0, none⟩)) (.pointer (some ⟨T, 0, none⟩))).run Try.prog w = .ok (.bool false) w := by
  obtain ⟨j, hj, hs⟩ := Option.map_eq_some_iff.1 size70
  exact run_eql_ptr_other w Try.underlying56 hj (by rw [hs]; decide) (by intro e; injection e with e; exact hne e) hS hT

set_option maxHeartbeats 1000000 in
/-- (*lock).grantOf: the first grant of the transaction p, or nil. -/
theorem grantOf_any (F cap n p : Nat) (ao r : Option Addr) (f : Nat → Gr) (w : World) (h : Holds w F ao cap n f) (hn : n ≤ 65536)
    (hT : ∀ j, j < n → ∃ c, w.heap[(f j).1]? = some (.cells c 70 (0, 0))) (hp : ∃ c, w.heap[p]? = some (.cells c 70 (0, 0)))
    (hr : (∃ j g, j < n ∧ ao = some ⟨g, 0, none⟩ ∧ (f j).1 = p ∧ (∀ i, i < j → (f i).1 ≠ p) ∧ r = some ⟨g, j * 3, none⟩) ∨ ((∀ i, i < n → (f i).1 ≠ p) ∧ r = none)) :
    Calls Try.prog 39 #[.pointer (some ⟨F, 0, none⟩), .pointer (some ⟨p, 0, none⟩)] w fun e w' => e = .returned (.pointer r) ∧ w' = w := by
  obtain ⟨hF, hrow⟩ := h
  have c4 : w.cell? ⟨F, 4, none⟩ = some (.slice ao n cap) := by rw [Lib.cell_of_heap hF]; rfl
  have HR := Lib.hid hrow
  have HT := Lib.hid hT
  have HRR := Lib.hid hr
  obtain ⟨cp, hcp⟩ := hp
  have HP := Lib.hid hcp
  clear hF hrow hT hr hcp
  go_enter Try.func39, Try.ntmps39
  go_wp2
  go_loop [11] (fun t => ∃ k : Nat, k ≤ n ∧ t = .int .i64 (k : Int) ∧ Hid (∀ i, i < k → (f i).1 ≠ p)) (fun t => n - (intOf t).toNat)
  case atStart => exact ⟨0, Nat.zero_le _, rfl, fun i h => absurd h (by omega)⟩
  case round =>
    obtain ⟨k, hk, rfl, HK⟩ := hrel
    by_cases hkn : k < n
    · obtain ⟨g, cur, rfl, hFg, hg, hc⟩ := HR.out (by omega)
      have e0 := (hc k hkn).1
      obtain ⟨ck, hck⟩ := HT.out k hkn
      have j1 : (0 : Int) ≤ (k : Int) := by omega
      have j2 : (k : Int) < (n : Int) := by omega
      by_cases hkp : (f k).1 = p
      · have hq := tx_same ⟨p, 0, none⟩
        rw [hkp] at e0
        have hres : r = some ⟨g, k * 3, none⟩ := by
          rcases HRR.out with ⟨j, g', hj, ha, hjp, hjb, rfl⟩ | ⟨hno, _⟩
          · cases ha
            rcases Nat.lt_trichotomy j k with h | h | h
            · exact absurd hjp (HK.out j h)
            · rw [h]
            · exact absurd hkp (hjb k h)
          · exact absurd hkp (hno k hkn)
        subst hres
        clear hc hg hck hkp
        go_wp2
        go_ret
        exact ⟨rfl, rfl⟩
      · have hq := tx_other (f k).1 p w ck cp hkp hck HP.out
        have HK2 : Hid (∀ i, i < k + 1 → (f i).1 ≠ p) := fun i hi => by
          rcases Nat.lt_succ_iff_lt_or_eq.1 hi with h | rfl
          · exact HK.out i h
          · exact hkp
        generalize (f k).1 = tk at *
        clear hc hg hck hkp
        go_wp2
        go_round
        case rel => exact ⟨k + 1, by omega, by go_num, HK2⟩
        case measure => simp [intOf]; omega
    · have hres : r = none := by
        rcases HRR.out with ⟨j, g', hj, ha, hjp, hjb, rfl⟩ | ⟨_, rfl⟩
        · exact absurd hjp (HK.out j (by omega))
        · rfl
      subst hres
      go_wp2
      go_ret
      exact ⟨rfl, rfl⟩

/-- ZZgrantOf. -/
theorem zzGrantOf_any (F cap n p : Nat) (ao r : Option Addr) (f : Nat → Gr) (w : World) (h : Holds w F ao cap n f) (hn : n ≤ 65536)
    (hT : ∀ j, j < n → ∃ c, w.heap[(f j).1]? = some (.cells c 70 (0, 0))) (hp : ∃ c, w.heap[p]? = some (.cells c 70 (0, 0)))
    (hr : (∃ j g, j < n ∧ ao = some ⟨g, 0, none⟩ ∧ (f j).1 = p ∧ (∀ i, i < j → (f i).1 ≠ p) ∧ r = some ⟨g, j * 3, none⟩) ∨ ((∀ i, i < n → (f i).1 ≠ p) ∧ r = none)) :
    Calls Try.prog 27 #[.pointer (some ⟨F, 0, none⟩), .pointer (some ⟨p, 0, none⟩)] w fun e w' => e = .returned (.pointer r) ∧ w = w' := by
  have hg := grantOf_any F cap n p ao r f w h hn hT hp hr
  clear h hT hp hr
  go_enter Try.func27, Try.ntmps27
  go_wp2_with fail
  refine hg.mono ?_
  rintro e w' ⟨rfl, hw⟩
  subst hw
  go_wp2
  go_ret
  exact ⟨rfl, rfl⟩

/-- ZZgrantAt: the address of grant j. -/
theorem grantAt_any (F cap n g j : Nat) (w : World) (hF : w.heap[F]? = some (.cells (lockCells (.slice (some ⟨g, 0, none⟩) n cap)) 95 (0, 0))) (hj : j < n) :
    Calls Try.prog 28 #[.pointer (some ⟨F, 0, none⟩), .int .i64 (j : Int)] w fun e w' => e = .returned (.pointer (some ⟨g, j * 3, none⟩)) ∧ w = w' := by
  have c4 : w.cell? ⟨F, 4, none⟩ = some (.slice (some ⟨g, 0, none⟩) n cap) := by rw [Lib.cell_of_heap hF]; rfl
  have j1 : (0 : Int) ≤ (j : Int) := by omega
  have j2 : (j : Int) < (n : Int) := by omega
  clear hF
  go_enter Try.func28, Try.ntmps28
  go_wp2
  go_ret
  exact ⟨rfl, rfl⟩

set_option maxHeartbeats 1000000 in
/-- ZZgrantFields. -/
theorem fields_any (g o : Nat) (x : Option Addr) (md rn : Int) (w : World) (h0 : w.cell? ⟨g, o, none⟩ = some (.pointer x)) (h1 : w.cell? ⟨g, o + 1, none⟩ = some (.int .u8 md)) (h2 : w.cell? ⟨g, o + 2, none⟩ = some (.int .i64 rn)) :
    Calls Try.prog 29 #[.pointer (some ⟨g, o, none⟩)] w fun e w' => e = .returned (.tuple #[.pointer x, .int .u8 md, .int .i64 rn]) ∧ ∃ q, w' = w.drewN q := by
  go_enter Try.func29, Try.ntmps29
  go_wp2_with fail
  go_quiet (fail)
  go_wp2
  go_ret3
  exact ⟨rfl, _, rfl⟩

set_option maxHeartbeats 1000000 in
/-- ZZsetGrant. -/
theorem set_any (g o : Nat) (a b : Value) (md rn : Int) (w : World) (h1 : w.cell? ⟨g, o + 1, none⟩ = some a) (h2 : w.cell? ⟨g, o + 2, none⟩ = some b) (f1 : w.frozen? ⟨g, o + 1, none⟩ = false) (f2 : w.frozen? ⟨g, o + 2, none⟩ = false) :
    Calls Try.prog 31 #[.pointer (some ⟨g, o, none⟩), .int .u8 md, .int .i64 rn] w fun e w' => e = .returned (.tuple #[]) ∧ w' = (w.setCell ⟨g, o + 1, none⟩ (.int .u8 md)).setCell ⟨g, o + 2, none⟩ (.int .i64 rn) := by
  go_enter Try.func31, Try.ntmps31
  go_wp2
  go_end0
  exact ⟨rfl, rfl⟩

/-- The two bounds on the length. -/
theorem bound7 (ao : Option Addr) (len cap : Nat) (q : Int) (w : World) (hl : len ≤ 140737488351232) :
    Calls Try.prog 24 #[.slice ao len cap, .int .u16 q] w fun e w' => e = .returned (.bool (decide (len ≤ 1048576))) ∧ w = w' := by
  have h0 : (len : Int) ≤ 140737488351232 := by omega
  by_cases h : (1048576 : Int) < (len : Int)
  · have hd : decide (len ≤ 1048576) = false := by simp; omega
    rw [hd]
    go_enter Try.func24, Try.ntmps24
    go_wp2
    go_ret
    exact ⟨rfl, rfl⟩
  · have hd : decide (len ≤ 1048576) = true := by simp; omega
    rw [hd]
    go_enter Try.func24, Try.ntmps24
    go_wp2
    go_ret
    exact ⟨rfl, rfl⟩
theorem bound8 (ao : Option Addr) (len cap : Nat) (q p m r : Int) (w : World) (hl : len ≤ 140737488351232) :
    Calls Try.prog 30 #[.slice ao len cap, .int .u16 q, .int .u16 p, .int .u8 m, .int .i64 r] w fun e w' => e = .returned (.bool (decide (len ≤ 1048576))) ∧ w = w' := by
  have h0 : (len : Int) ≤ 140737488351232 := by omega
  by_cases h : (1048576 : Int) < (len : Int)
  · have hd : decide (len ≤ 1048576) = false := by simp; omega
    rw [hd]
    go_enter Try.func30, Try.ntmps30
    go_wp2
    go_ret
    exact ⟨rfl, rfl⟩
  · have hd : decide (len ≤ 1048576) = true := by simp; omega
    rw [hd]
    go_enter Try.func30, Try.ntmps30
    go_wp2
    go_ret
    exact ⟨rfl, rfl⟩
end Go.Proofs.Qxb6618594a
