/- The walk of the law FnGrantOfAnswerIsTheLiveGrant. -/
import Derived.Test.Qxb6618594aLaw7
namespace Go.Proofs.Qxb6618594a
open Go.RowKit

theorem tx_neq_same (a : Addr) (w : World) : (binOp .neq 56 (.pointer (some a)) (.pointer (some a))).run Try.prog w = .ok (.bool false) w := by
  obtain ⟨j, hj, _⟩ := Option.map_eq_some_iff.1 size70
  exact Lib.run_neq_ptr_same w a Try.underlying56 hj
theorem gr_other (g x y : Nat) (w : World) (c : Array Value) (hne : x ≠ y) (hg : w.heap[g]? = some (.cells c 91 (0, 0))) :
    (binOp .eql 74 (.pointer (some ⟨g, x, none⟩)) (.pointer (some ⟨g, y, none⟩))).run Try.prog w = .ok (.bool false) w := by
  obtain ⟨j, hj, hs⟩ := Option.map_eq_some_iff.1 size91
  exact run_eql_ptr_other w Try.underlying74 hj (by rw [hs]; decide) (by intro e; injection e with _ e; exact hne e) hg hg

/-- A mode and a run written through grant m: the other grants stay, every other block too. -/
theorem set_holds {w : World} {F g cap n m : Nat} {f : Nat → Gr} {cur : Array Value} {mo ru : Int} (hF : w.heap[F]? = some (.cells (lockCells (.slice (some ⟨g, 0, none⟩) n cap)) 95 (0, 0))) (hFg : F < g) (hg : w.heap[g]? = some (.cells cur 91 (0, 0)))
    (hc : ∀ j, j < n → w.cell? ⟨g, j * 3, none⟩ = some (.pointer (some ⟨(f j).1, 0, none⟩)) ∧ w.cell? ⟨g, j * 3 + 1, none⟩ = some (.int .u8 (f j).2.1) ∧ w.cell? ⟨g, j * 3 + 2, none⟩ = some (.int .i64 (f j).2.2)) (hm : m < n) :
    Holds ((w.setCell ⟨g, m * 3 + 1, none⟩ (.int .u8 mo)).setCell ⟨g, m * 3 + 2, none⟩ (.int .i64 ru)) F (some ⟨g, 0, none⟩) cap n (fun j => if j = m then ((f m).1, mo, ru) else f j) ∧
    (∃ c, ((w.setCell ⟨g, m * 3 + 1, none⟩ (.int .u8 mo)).setCell ⟨g, m * 3 + 2, none⟩ (.int .i64 ru)).heap[g]? = some (.cells c 91 (0, 0))) ∧
    Below g w ((w.setCell ⟨g, m * 3 + 1, none⟩ (.int .u8 mo)).setCell ⟨g, m * 3 + 2, none⟩ (.int .i64 ru)) := by
  have hb : Below g w ((w.setCell ⟨g, m * 3 + 1, none⟩ (.int .u8 mo)).setCell ⟨g, m * 3 + 2, none⟩ (.int .i64 ru)) := ((Below.refl g w).setCell (p := ⟨g, m * 3 + 1, none⟩) (Nat.le_refl _) _).setCell (p := ⟨g, m * 3 + 2, none⟩) (Nat.le_refl _) _
  have hg2 := Lib.heap_setCell_same (i := m * 3 + 2) (Lib.heap_setCell_same (i := m * 3 + 1) hg (.int .u8 mo)) (.int .i64 ru)
  have hcur : ∀ i x, w.cell? ⟨g, i, none⟩ = some x → cur[i]? = some x := fun i x hx => by rw [Lib.cell_of_heap hg] at hx; exact hx
  have hlt : ∀ i x, w.cell? ⟨g, i, none⟩ = some x → i < cur.size := fun i x hx => by
    rcases Nat.lt_or_ge i cur.size with h | h
    · exact h
    · have := hcur i x hx; rw [Array.getElem?_eq_none h] at this; cases this
  refine ⟨⟨(hb.block F hFg).trans hF, fun _ => ⟨g, _, rfl, hFg, hg2, fun j hj => ?_⟩⟩, ⟨_, hg2⟩, hb⟩
  obtain ⟨a, b, c⟩ := hc j hj
  obtain ⟨_, bm, cm⟩ := hc m hm
  rw [Lib.cell_of_heap hg2, Lib.cell_of_heap hg2, Lib.cell_of_heap hg2]
  simp only [Array.getElem?_setIfInBounds, Array.size_setIfInBounds]
  have lb := hlt _ _ bm
  have lc := hlt _ _ cm
  by_cases hjm : j = m
  · subst hjm
    refine ⟨?_, ?_, ?_⟩
    · rw [if_neg (by omega), if_neg (by omega), hcur _ _ a]; simp
    · rw [if_neg (by omega), if_pos rfl, if_pos lb]; simp
    · rw [if_pos rfl, if_pos lc]; simp
  · rw [if_neg hjm]
    refine ⟨?_, ?_, ?_⟩
    · rw [if_neg (by omega), if_neg (by omega)]; exact hcur _ _ a
    · rw [if_neg (by omega), if_neg (by omega)]; exact hcur _ _ b
    · rw [if_neg (by omega), if_neg (by omega)]; exact hcur _ _ c
/-- What stands below the lock stays under writes behind it. -/
theorem Stand.far {N : Nat} {w W W' : World} {A P S Q n B : Nat} {tx : Nat → Nat} (h : Stand N w A P S Q n tx W) (hb : Below B W W') (hA : A < B) (hP : P < B) (hS : ∀ j, j < n → S + j < B) (hQ : Q < B) : Stand N w A P S Q n tx W' := by
  refine ⟨h.at_.kept (hb.block _ hA), h.pool.kept (hb.block _ hP), fun j hj => ?_, ?_, h.below.trans (hb.mono (Nat.le_of_lt hA))⟩
  · obtain ⟨c, hc⟩ := h.txs j hj; exact ⟨c, (hb.block _ (hS j hj)).trans hc⟩
  · obtain ⟨c, hc⟩ := h.qtx; exact ⟨c, (hb.block _ hQ).trans hc⟩

set_option maxRecDepth 100000 in
set_option maxHeartbeats 4000000 in
theorem law8_in (ao : Option Addr) (n cap q p : Nat) (mo ru : Int) (tx : Nat → Nat) (md rn : Nat → Int) (w : World) (hG : Grants w ao n tx md rn) (hn : n ≤ 65536) (htx : ∀ j, j < n → tx j < 65536) (hq : q < 65536) (hp : p < 65536) :
    Calls Try.prog 8 #[.slice ao n cap, .int .u16 (q : Int), .int .u16 (p : Int), .int .u8 mo, .int .i64 ru] w fun e w' => e = .returned (.bool true) ∧ Below w.heap.size w w' := by
  obtain ⟨i3, hi3, hz30, hz31, hz32⟩ := info_parts info3
  obtain ⟨N, hN⟩ : ∃ N : Nat, (65536 : Int) = (N : Int) := ⟨65536, rfl⟩
  have HN := Lib.hid hN
  have hb := bound8 ao n cap q p mo ru w (by omega)
  have hd : decide (n ≤ 1048576) = true := by simp; omega
  rw [hd] at hb
  have hni : (n : Int) ≤ 65536 := by omega
  have hby3 : i3.bytes * N ≤ 281474976710656 := by rw [hz32]; omega
  have hml : N ≤ maxLen := by unfold maxLen; omega
  have HG := Lib.hid hG
  have HTX : Hid (∀ j, j < n → tx j < N) := fun j hj => by have := htx j hj; omega
  have hqN : (q : Int) < (N : Int) := by omega
  have hpN : (p : Int) < (N : Int) := by omega
  have hp0 : (0 : Int) ≤ (p : Int) := by omega
  have hp1 : (p : Int) ≤ 100000 := by omega
  have hnN : (n : Int) ≤ (N : Int) := by omega
  clear hG htx hd hz32 hN
  go_enter Try.func8, Try.ntmps8
  go_wp2_with (first | (go_at_call 30; refine hb.mono ?_; rintro e w' ⟨rfl, rfl⟩) | (at_make; refine wpList_make_full _ rfl (.const (.int .i64 65536)) (.const (.int .i64 65536)) 52 rfl w.heap.size 3 i3 (.int .i64 0) 1 Try.underlying52 hi3 hz30 hz31 .i64 .i64 _ _ N rfl rfl HN.out HN.out hby3 hml (Nat.le_refl _) ?_; intro w1 ho1 hg1; refine Hid.out ?_))
  have hA := RowIs.made (z := .int .i64 0) rfl ho1
  have hB1 := below_made hg1
  have HA := Lib.hid hA
  have HB1 := Lib.hid hB1
  clear ho1 hg1 hA hB1 hi3 hz30 hz31 hby3
  refine Lib.hid ?_
  go_wp2_with fail
  go_loopw [13] (fun t wr => ∃ k : Nat, k ≤ n ∧ t = .int .i64 (k : Int) ∧ Hid (RowIs N wr w.heap.size 3 (fun id => .int .i64 (atF tx k id : Int))) ∧ Hid (Dist tx k) ∧ Hid (Below w.heap.size w wr)) (fun t _ => n - (intOf t).toNat)
  case atStart => exact ⟨0, Nat.zero_le _, rfl, HA, dist_zero tx, HB1⟩
  case round =>
    obtain ⟨k, hk, rfl, HR, HD, HB⟩ := hrel
    clear HA HB1
    by_cases hkn : k < n
    · obtain ⟨b, off, rfl, hc⟩ := HG.out (by omega)
      have hbl := block_lt_of_cell (hc k hkn).1
      have c1 : wr.cell? ⟨b, off + k * 3, none⟩ = some (.int .u16 (tx k : Int)) := (HB.out.cell (p := ⟨b, off + k * 3, none⟩) hbl).trans (hc k hkn).1
      have ht := HTX.out k hkn
      have c2 := HR.out.cell (tx k) ht
      have f2 := HR.out.free (tx k)
      have j1 : (0 : Int) ≤ (k : Int) := by omega
      have j2 : (k : Int) < (n : Int) := by omega
      have j3 : (tx k : Int) < (N : Int) := by omega
      have j5 : (tx k : Int) ≤ 100000 := by have := HN.out; omega
      have j4 : (0 : Int) ≤ (tx k : Int) := by omega
      clear hc hbl
      by_cases h0 : atF tx k (tx k) = 0
      · have HD2 : Hid (Dist tx (k + 1)) := dist_succ HD.out h0
        have HR2 := Lib.hid (at_step HR.out)
        have HB2 := Lib.hid (HB.out.setCell (p := ⟨w.heap.size, tx k, none⟩) (Nat.le_refl _) (.int .i64 ((k : Int) + 1)))
        rw [h0] at c2
        clear HR HD HB h0
        go_wp2_with fail
        go_roundw
        case rel => exact ⟨k + 1, by omega, by go_num, HR2, HD2, HB2⟩
        case measure => simp [intOf]; omega
      · go_wp2_with fail
        go_ret
        exact ⟨rfl, HB.out⟩
    · obtain rfl : n = k := by omega
      obtain ⟨i56, hi56, hz560, hz561, hz562⟩ := info_parts info56
      have hby56 : i56.bytes * N ≤ 281474976710656 := by rw [hz562]; have := HN.out; omega
      clear hz562
      go_wp2_with (at_make; refine wpList_make_full _ rfl (.const (.int .i64 65536)) (.const (.int .i64 65536)) 55 rfl wr.heap.size 56 i56 (.pointer none) 1 Try.underlying55 hi56 hz560 hz561 .i64 .i64 _ _ N rfl rfl HN.out HN.out hby56 hml (Nat.le_refl _) ?_; intro w2 ho2 hg2; refine Hid.out ?_)
      have hP := RowIs.made (z := .pointer none) rfl ho2
      have hB2 := below_made hg2
      have HA2 := Lib.hid (HR.out.kept (hB2.block _ HR.out.lt))
      have HB2 := Lib.hid (HB.out.trans (hB2.mono HB.out.size))
      have HAP := Lib.hid HR.out.lt
      have HP2 := Lib.hid hP
      have HPS := Lib.hid hP.lt
      generalize wr.heap.size = P at *
      clear ho2 hg2 hP hB2 hi56 hz560 hz561 hby56 HR HB hkn hml
      refine Lib.hid ?_
      go_wp2_with fail
      go_loopw [16] (fun t wr => ∃ k : Nat, k ≤ n ∧ t = .int .i64 (k : Int) ∧ Hid (RowIs N wr P 56 (fun id => .pointer (pp w2.heap.size (atF tx k id)))) ∧ Hid (wr.heap.size = w2.heap.size + k) ∧ Hid (∀ j, j < k → ∃ c, wr.heap[w2.heap.size + j]? = some (.cells c 70 (0, 0))) ∧ Hid (Below P w2 wr)) (fun t _ => n - (intOf t).toNat)
      case atStart => exact ⟨0, Nat.zero_le _, rfl, HP2, rfl, fun j hj => absurd hj (by omega), Below.refl _ _⟩
      case round =>
        obtain ⟨k, hk2, rfl, HP, HS, HT, HBP⟩ := hrel
        clear HP2
        by_cases hkn : k < n
        · obtain ⟨b, off, rfl, hc⟩ := HG.out (by omega)
          have hbl := block_lt_of_cell (hc k hkn).1
          have c1 : wr.cell? ⟨b, off + k * 3, none⟩ = some (.int .u16 (tx k : Int)) := (HBP.out.cell (p := ⟨b, off + k * 3, none⟩) (Nat.lt_trans hbl HAP.out)).trans ((HB2.out.cell (p := ⟨b, off + k * 3, none⟩) hbl).trans (hc k hkn).1)
          have ht := HTX.out k hkn
          have c2 := HP.out.cell (tx k) ht
          have f2 := HP.out.free (tx k)
          have j1 : (0 : Int) ≤ (k : Int) := by omega
          have j2 : (k : Int) < (n : Int) := by omega
          have j3 : (tx k : Int) < (N : Int) := by omega
          have j5 : (tx k : Int) ≤ 100000 := by have := HN.out; omega
          have j4 : (0 : Int) ≤ (tx k : Int) := by omega
          have hPlt := HP.out.lt
          have HP3 := fun o => Lib.hid (pool_step HP.out HS.out o)
          clear hc hbl HP
          generalize pp w2.heap.size (atF tx k (tx k)) = op at *
          go_wp2_with fail
          go_roundw
          case rel =>
            have hpr := fun c => pool_rest (c := c) (id := tx k) (v := .pointer (some ⟨wr.heap.size, 0, none⟩)) HS.out HT.out HBP.out HPS.out
            exact ⟨k + 1, by omega, by go_num, HP3 _, (hpr _).1, (hpr _).2.1, (hpr _).2.2⟩
          case measure => simp [intOf]; omega
        · obtain rfl : n = k := by omega
          have c3 := HP.out.cell q (by omega)
          have hq0 : (0 : Int) ≤ (q : Int) := by omega
          have hq1 : (q : Int) ≤ 100000 := by omega
          have HAw := Lib.hid (HA2.out.kept (HBP.out.block _ HAP.out))
          have HBw := Lib.hid (HB2.out.trans (HBP.out.mono (Nat.le_of_lt HAP.out)))
          generalize hS0 : w2.heap.size = S at *
          have hz : Hid (S + n = wr.heap.size) := HS.out.symm
          clear HB2 HA2 HBP hS0
          cases hm : atF tx n q with
          | zero =>
            have HM := Lib.hid hm
            rw [hm] at c3
            clear hm
            have c4 : wr.cell? ⟨P, q, none⟩ = some (.pointer none) := c3
            clear c3
            have hSt : ∀ c, Stand N w w.heap.size P S wr.heap.size n tx (wr.alloc (.cells c 70)) := fun c =>
              ⟨HAw.out.kept (Below.heap_alloc _ _ _ HAw.out.lt), HP.out.kept (Below.heap_alloc _ _ _ HP.out.lt), fun j hj => by
                obtain ⟨c', hc⟩ := HT.out j hj
                exact ⟨c', (Below.heap_alloc _ _ _ (Lib.lt_of_heap hc)).trans hc⟩, ⟨c, heap_alloc_new wr _⟩, HBw.out.alloc (Nat.le_of_lt HAw.out.lt) _⟩
            have HSt := Lib.hid hSt
            clear hSt
            go_wp2_with fail
            refine gen25 (Stand N w w.heap.size P S wr.heap.size n tx) (HSt.out _) ?_
            clear HSt HAw HP HT HBw HS c4
            intro W3 hSt3
            generalize wr.heap.size = Q at *
            have HSt := Lib.hid hSt3
            clear hSt3
            refine (newLock_any W3).mono ?_
            rintro e w' ⟨rfl, rfl⟩
            have HBu := Lib.hid (built_new W3 (fun j => ((S + j, md j, rn j) : Gr)))
            have HB3 := Lib.hid ((Below.refl W3.heap.size W3).alloc (Nat.le_refl _) (.cells (lockCells (.slice none 0 0)) 95))
            go_wp2_with fail
            go_loopw [19] (fun t wr => ∃ k : Nat, k ≤ n ∧ t = .int .i64 (k : Int) ∧ Hid (Built wr W3.heap.size k (fun j => ((S + j, md j, rn j) : Gr))) ∧ Hid (Below W3.heap.size W3 wr)) (fun t _ => n - (intOf t).toNat)
            case atStart => exact ⟨0, Nat.zero_le _, rfl, HBu, HB3⟩
            case round =>
              obtain ⟨k, hk3, rfl, HBk, HBF⟩ := hrel
              clear HBu HB3
              by_cases hkn : k < n
              · obtain ⟨b, off, rfl, hc⟩ := HG.out (by omega)
                have hbl := block_lt_of_cell (hc k hkn).1
                have hB := HSt.out.below.trans (HBF.out.mono (Nat.le_of_lt HSt.out.at_.lt))
                have ht := HTX.out k hkn
                have c0 := (hB.cell (p := ⟨b, off + k * 3, none⟩) hbl).trans (hc k hkn).1
                have c1 := (hB.cell (p := ⟨b, off + k * 3 + 1, none⟩) hbl).trans (hc k hkn).2.1
                have c2 := (hB.cell (p := ⟨b, off + k * 3 + 2, none⟩) hbl).trans (hc k hkn).2.2
                have cp : wr.cell? ⟨P, tx k, none⟩ = some (.pointer (some ⟨S + k, 0, none⟩)) := by
                  have h1 := (HSt.out.on HBF.out rfl).pool.cell (tx k) ht
                  rw [atF_at HD.out k hkn] at h1
                  exact h1
                have hPF := HSt.out.pool.lt
                have hbF : b < W3.heap.size := Nat.lt_trans hbl HSt.out.at_.lt
                have hadd := fun q' => add_built W3.heap.size k (fun j => ((S + j, md j, rn j) : Gr)) (wr.drewN q') HBk.out (by omega) (S + k) (md k) (rn k) rfl
                have j1 : (0 : Int) ≤ (k : Int) := by omega
                have j2 : (k : Int) < (n : Int) := by omega
                have j3 : (tx k : Int) < (N : Int) := by omega
                have j5 : (tx k : Int) ≤ 100000 := by have := HN.out; omega
                have j4 : (0 : Int) ≤ (tx k : Int) := by omega
                have hw : IntKind.i64.wrap (tx k : Int) = (tx k : Int) := by rw [IntKind.wrap_i64]; omega
                clear hc hB HBk
                go_wp2_with fail
                go_region_held3 (fun w' => w'.cell? ⟨b, off + k * 3, none⟩ = some (.int .u16 (tx k : Int)) ∧ w'.cell? ⟨b, off + k * 3 + 1, none⟩ = some (.int .u8 (md k)) ∧ w'.cell? ⟨b, off + k * 3 + 2, none⟩ = some (.int .i64 (rn k)) ∧ w'.cell? ⟨P, tx k, none⟩ = some (.pointer (some ⟨S + k, 0, none⟩))) (first | exact ⟨c0, c1, c2, cp⟩ | exact ⟨(hB6.cell (p := ⟨b, off + k * 3, none⟩) hbF).trans c0, (hB6.cell (p := ⟨b, off + k * 3 + 1, none⟩) hbF).trans c1, (hB6.cell (p := ⟨b, off + k * 3 + 2, none⟩) hbF).trans c2, (hB6.cell (p := ⟨P, tx k, none⟩) hPF).trans cp⟩)
                  ((go_at_call 26; refine (hadd 1).mono ?_; rintro e w6 ⟨rfl, hBu6, hB6⟩))
                have HBu6 := Lib.hid hBu6
                have HB6 : Hid (Below W3.heap.size W3 w6) := HBF.out.trans ⟨hB6.os, hB6.tape, hB6.output, hB6.size, hB6.block⟩
                clear hBu6 hB6 hadd c0 c1 c2 cp
                go_wp2_with fail
                go_roundw
                case rel => exact ⟨k + 1, by omega, by go_num, HBu6, HB6⟩
                case measure => simp [intOf]; omega
              · obtain rfl : n = k := by omega
                have hSt5 := HSt.out.on HBF.out rfl
                have hBl := HBk.out
                have HSF := Lib.hid (And.intro HSt.out.at_.lt (And.intro HSt.out.pool.lt (And.intro (fun j (hj : j < n) => (HSt.out.txs j hj).elim fun _ hc => Lib.lt_of_heap hc) (HSt.out.qtx.elim fun _ hc => Lib.lt_of_heap hc))))
                have HX := Lib.hid (And.intro hSt5 hBl)
                clear hSt5 hBl HBk HBF HSt hkn hk3
                generalize W3.heap.size = F at *
                obtain ⟨hSt, hBf⟩ := HX.out
                obtain ⟨v1, hv1, ho1⟩ := hBf
                obtain ⟨ao1, cap1, rfl, hH1⟩ := holds_of_own hv1 ho1
                have hQ := hz.out
                have hz1 := zzGrantOf_any F cap1 n Q ao1 none (fun j => ((S + j, md j, rn j) : Gr)) wr hH1 hn (fun j hj => hSt.txs j hj) hSt.qtx (Or.inr ⟨fun i hi => by show S + i ≠ Q; omega, rfl⟩)
                have ca : wr.cell? ⟨w.heap.size, q, none⟩ = some (.int .i64 0) := by
                  have h := hSt.at_.cell q (by omega)
                  rw [HM.out] at h
                  simpa using h
                have HE := Lib.hid hSt.below
                clear HX hH1 hv1 ho1 hSt hQ
                go_wp2_with fail
                refine hz1.mono ?_
                clear hz1
                rintro e w' ⟨rfl, rfl⟩
                go_wp2
                go_ret
                exact ⟨rfl, HE.out⟩
          | succ m =>
            have HM := Lib.hid hm
            rw [hm] at c3
            obtain ⟨hmn, hmq⟩ := atF_pos tx n q m hm
            have HMQ := Lib.hid hmq
            clear hm hmq
            have c4 : wr.cell? ⟨P, q, none⟩ = some (.pointer (some ⟨S + m, 0, none⟩)) := c3
            clear c3
            have hSt : Stand N w w.heap.size P S (S + m) n tx wr := ⟨HAw.out, HP.out, HT.out, HT.out m hmn, HBw.out⟩
            have HSt := Lib.hid hSt
            clear hSt
            generalize hQ : S + m = Q at *
            have HQ := Lib.hid hQ
            clear hQ
            go_wp2_with fail
            refine gen25 (Stand N w w.heap.size P S Q n tx) HSt.out ?_
            clear HSt HAw HP HT HBw HS c4
            intro W3 hSt3
            have HSt := Lib.hid hSt3
            clear hSt3
            refine (newLock_any W3).mono ?_
            rintro e w' ⟨rfl, rfl⟩
            have HBu := Lib.hid (built_new W3 (fun j => ((S + j, md j, rn j) : Gr)))
            have HB3 := Lib.hid ((Below.refl W3.heap.size W3).alloc (Nat.le_refl _) (.cells (lockCells (.slice none 0 0)) 95))
            go_wp2_with fail
            go_loopw [19] (fun t wr => ∃ k : Nat, k ≤ n ∧ t = .int .i64 (k : Int) ∧ Hid (Built wr W3.heap.size k (fun j => ((S + j, md j, rn j) : Gr))) ∧ Hid (Below W3.heap.size W3 wr)) (fun t _ => n - (intOf t).toNat)
            case atStart => exact ⟨0, Nat.zero_le _, rfl, HBu, HB3⟩
            case round =>
              obtain ⟨k, hk3, rfl, HBk, HBF⟩ := hrel
              clear HBu HB3
              by_cases hkn : k < n
              · obtain ⟨b, off, rfl, hc⟩ := HG.out (by omega)
                have hbl := block_lt_of_cell (hc k hkn).1
                have hB := HSt.out.below.trans (HBF.out.mono (Nat.le_of_lt HSt.out.at_.lt))
                have ht := HTX.out k hkn
                have c0 := (hB.cell (p := ⟨b, off + k * 3, none⟩) hbl).trans (hc k hkn).1
                have c1 := (hB.cell (p := ⟨b, off + k * 3 + 1, none⟩) hbl).trans (hc k hkn).2.1
                have c2 := (hB.cell (p := ⟨b, off + k * 3 + 2, none⟩) hbl).trans (hc k hkn).2.2
                have cp : wr.cell? ⟨P, tx k, none⟩ = some (.pointer (some ⟨S + k, 0, none⟩)) := by
                  have h1 := (HSt.out.on HBF.out rfl).pool.cell (tx k) ht
                  rw [atF_at HD.out k hkn] at h1
                  exact h1
                have hPF := HSt.out.pool.lt
                have hbF : b < W3.heap.size := Nat.lt_trans hbl HSt.out.at_.lt
                have hadd := fun q' => add_built W3.heap.size k (fun j => ((S + j, md j, rn j) : Gr)) (wr.drewN q') HBk.out (by omega) (S + k) (md k) (rn k) rfl
                have j1 : (0 : Int) ≤ (k : Int) := by omega
                have j2 : (k : Int) < (n : Int) := by omega
                have j3 : (tx k : Int) < (N : Int) := by omega
                have j5 : (tx k : Int) ≤ 100000 := by have := HN.out; omega
                have j4 : (0 : Int) ≤ (tx k : Int) := by omega
                have hw : IntKind.i64.wrap (tx k : Int) = (tx k : Int) := by rw [IntKind.wrap_i64]; omega
                clear hc hB HBk
                go_wp2_with fail
                go_region_held3 (fun w' => w'.cell? ⟨b, off + k * 3, none⟩ = some (.int .u16 (tx k : Int)) ∧ w'.cell? ⟨b, off + k * 3 + 1, none⟩ = some (.int .u8 (md k)) ∧ w'.cell? ⟨b, off + k * 3 + 2, none⟩ = some (.int .i64 (rn k)) ∧ w'.cell? ⟨P, tx k, none⟩ = some (.pointer (some ⟨S + k, 0, none⟩))) (first | exact ⟨c0, c1, c2, cp⟩ | exact ⟨(hB6.cell (p := ⟨b, off + k * 3, none⟩) hbF).trans c0, (hB6.cell (p := ⟨b, off + k * 3 + 1, none⟩) hbF).trans c1, (hB6.cell (p := ⟨b, off + k * 3 + 2, none⟩) hbF).trans c2, (hB6.cell (p := ⟨P, tx k, none⟩) hPF).trans cp⟩)
                  ((go_at_call 26; refine (hadd 1).mono ?_; rintro e w6 ⟨rfl, hBu6, hB6⟩))
                have HBu6 := Lib.hid hBu6
                have HB6 : Hid (Below W3.heap.size W3 w6) := HBF.out.trans ⟨hB6.os, hB6.tape, hB6.output, hB6.size, hB6.block⟩
                clear hBu6 hB6 hadd c0 c1 c2 cp
                go_wp2_with fail
                go_roundw
                case rel => exact ⟨k + 1, by omega, by go_num, HBu6, HB6⟩
                case measure => simp [intOf]; omega
              · obtain rfl : n = k := by omega
                have hSt5 := HSt.out.on HBF.out rfl
                have hBl := HBk.out
                have HSF := Lib.hid (And.intro HSt.out.at_.lt (And.intro HSt.out.pool.lt (And.intro (fun j (hj : j < n) => (HSt.out.txs j hj).elim fun _ hc => Lib.lt_of_heap hc) (HSt.out.qtx.elim fun _ hc => Lib.lt_of_heap hc))))
                have HX := Lib.hid (And.intro hSt5 hBl)
                clear hSt5 hBl HBk HBF HSt hkn hk3
                generalize W3.heap.size = F at *
                obtain ⟨hSt, hBf⟩ := HX.out
                obtain ⟨v1, hv1, ho1⟩ := hBf
                obtain ⟨ao1, cap1, rfl, hH1⟩ := holds_of_own hv1 ho1
                obtain ⟨g1, cur1, rfl, hFg1, hg1, hc1⟩ := hH1.2 (by omega)
                have hQ := HQ.out
                have hz1 := zzGrantOf_any F cap1 n Q (some ⟨g1, 0, none⟩) (some ⟨g1, m * 3, none⟩) (fun j => ((S + j, md j, rn j) : Gr)) wr hH1 hn (fun j hj => hSt.txs j hj) hSt.qtx (Or.inl ⟨m, g1, hmn, rfl, hQ, fun i hi => by show S + i ≠ Q; omega, rfl⟩)
                have ca : wr.cell? ⟨w.heap.size, q, none⟩ = some (.int .i64 ((m : Int) + 1)) := by
                  have h := hSt.at_.cell q (by omega)
                  rw [HM.out] at h
                  simpa using h
                have d1 := hc1 m hmn
                have hset := set_any g1 (m * 3) _ _ mo ru wr d1.2.1 d1.2.2 (Lib.frozen_of_heap hg1 _) (Lib.frozen_of_heap hg1 _)
                obtain ⟨hH6, ⟨c6, hg6⟩, hB6⟩ := set_holds (mo := mo) (ru := ru) hv1 hFg1 hg1 hc1 hmn
                obtain ⟨fA, fP, fS, fQ⟩ := HSF.out
                have hSt6 := hSt.far hB6 (by omega) (by omega) (fun j hj => by have := fS j hj; omega) (by omega)
                have HX6 := Lib.hid (And.intro hH6 (And.intro hSt6 hg6))
                have m0 : (0 : Int) ≤ (m : Int) := by omega
                have m1 : (m : Int) < (n : Int) := by omega
                clear HX d1 hH1 hv1 ho1 hc1 hg1 hSt hQ hH6 hg6 hB6 hSt6 fA fP fS fQ
                go_wp2_with fail
                refine hz1.mono ?_
                clear hz1
                rintro e w' ⟨rfl, rfl⟩
                go_wp2_with fail
                refine hset.mono ?_
                clear hset
                rintro e w6 ⟨rfl, hw6⟩
                rw [← hw6] at HX6
                clear hw6
                obtain ⟨hH6, hSt6, hg6⟩ := HX6.out
                have hQ := HQ.out
                have hf1 : ∀ j, ((if j = m then ((S + m, mo, ru) : Gr) else (S + j, md j, rn j)) : Gr).1 = S + j := fun j => by
                  by_cases h : j = m
                  · rw [if_pos h, h]
                  · rw [if_neg h]
                have hT6 : ∀ j, j < n → ∃ c, w6.heap[((if j = m then ((S + m, mo, ru) : Gr) else (S + j, md j, rn j)) : Gr).1]? = some (.cells c 70 (0, 0)) := fun j hj => by rw [hf1 j]; exact hSt6.txs j hj
                have hz2 := zzGrantOf_any F cap1 n Q (some ⟨g1, 0, none⟩) (some ⟨g1, m * 3, none⟩) _ w6 hH6 hn hT6 hSt6.qtx (Or.inl ⟨m, g1, hmn, rfl, (hf1 m).trans hQ, fun i hi => by rw [hf1 i]; omega, rfl⟩)
                obtain ⟨g1', cur6, hgg, _, _, hc6⟩ := hH6.2 (by omega)
                cases hgg
                have d6 := hc6 m hmn
                simp only [↓reduceIte] at d6
                have d60 : w6.cell? ⟨g1, m * 3, none⟩ = some (.pointer (some ⟨Q, 0, none⟩)) := by rw [← hQ]; exact d6.1
                have hfl := fields_any g1 (m * 3) (some ⟨Q, 0, none⟩) mo ru w6 d60 d6.2.1 d6.2.2
                have hns := gr_neq_same ⟨g1, m * 3, none⟩
                have htn := tx_neq_same ⟨Q, 0, none⟩
                have cap6 : w6.cell? ⟨w.heap.size, p, none⟩ = some (.int .i64 (atF tx n p : Int)) := hSt6.at_.cell p (by omega)
                have HE := Lib.hid hSt6.below
                cases hm2 : atF tx n p with
                | zero =>
                  rw [hm2] at cap6
                  have cap7 : w6.cell? ⟨w.heap.size, p, none⟩ = some (.int .i64 0) := cap6
                  clear HX6 hH6 hSt6 hg6 hQ hf1 hT6 hc6 d6 d60 cap6 hm2
                  go_wp2_with fail
                  refine hz2.mono ?_
                  clear hz2
                  rintro e w' ⟨rfl, rfl⟩
                  go_wp2_with fail
                  refine hfl.mono ?_
                  clear hfl
                  rintro e w' ⟨rfl, q7, rfl⟩
                  go_wp2
                  go_ret
                  have hE := HE.out
                  exact ⟨rfl, ⟨hE.os, hE.tape, hE.output, hE.size, hE.block⟩⟩
                | succ m2 =>
                  rw [hm2] at cap6
                  obtain ⟨hm2n, hm2p⟩ := atF_pos tx n p m2 hm2
                  have cap7 : w6.cell? ⟨w.heap.size, p, none⟩ = some (.int .i64 ((m2 : Int) + 1)) := by simpa using cap6
                  by_cases hmm : m2 = m
                  · subst hmm
                    clear HX6 hH6 hSt6 hg6 hQ hf1 hT6 hc6 d6 d60 cap6 hm2 hm2p
                    go_wp2_with fail
                    refine hz2.mono ?_
                    clear hz2
                    rintro e w' ⟨rfl, rfl⟩
                    go_wp2_with fail
                    refine hfl.mono ?_
                    clear hfl
                    rintro e w' ⟨rfl, q7, rfl⟩
                    go_wp2
                    go_ret
                    have hE := HE.out
                    exact ⟨by simp, ⟨hE.os, hE.tape, hE.output, hE.size, hE.block⟩⟩
                  · have hz3 := fun q' => zzGrantOf_any F cap1 n (S + m2) (some ⟨g1, 0, none⟩) (some ⟨g1, m2 * 3, none⟩) _ (w6.drewN q') hH6 hn hT6 (hSt6.txs m2 hm2n) (Or.inl ⟨m2, g1, hm2n, rfl, hf1 m2, fun i hi => by rw [hf1 i]; omega, rfl⟩)
                    have cp6 : w6.cell? ⟨P, p, none⟩ = some (.pointer (some ⟨S + m2, 0, none⟩)) := by
                      have h := hSt6.pool.cell p (by omega)
                      rw [hm2] at h
                      exact h
                    have d7 := hc6 m2 hm2n
                    simp only [if_neg hmm] at d7
                    have hfl2 := fun q' => fields_any g1 (m2 * 3) (some ⟨S + m2, 0, none⟩) (md m2) (rn m2) (w6.drewN q') d7.1 d7.2.1 d7.2.2
                    have hgo := fun q' => gr_other g1 (m2 * 3) (m * 3) (w6.drewN q') c6 (by omega) hg6
                    have hts := tx_same ⟨S + m2, 0, none⟩
                    obtain ⟨b, off, rfl, hc⟩ := HG.out (by omega)
                    have hbl := block_lt_of_cell (hc m2 hm2n).1
                    have c1 := (hSt6.below.cell (p := ⟨b, off + m2 * 3 + 1, none⟩) hbl).trans (hc m2 hm2n).2.1
                    have c2 := (hSt6.below.cell (p := ⟨b, off + m2 * 3 + 2, none⟩) hbl).trans (hc m2 hm2n).2.2
                    have n0 : (0 : Int) ≤ (m2 : Int) := by omega
                    have n1 : (m2 : Int) < (n : Int) := by omega
                    have hmb : ((m2 : Int) == (m : Int)) = false := beq_eq_false_iff_ne.2 (by omega)
                    clear HX6 hH6 hSt6 hg6 hQ hf1 hT6 hc6 d6 d60 d7 cap6 hm2 hm2p hmm hc
                    go_wp2_with fail
                    refine hz2.mono ?_
                    clear hz2
                    rintro e w' ⟨rfl, rfl⟩
                    go_wp2_with fail
                    refine hfl.mono ?_
                    clear hfl
                    rintro e w' ⟨rfl, q7, rfl⟩
                    go_wp2_with fail
                    refine (hz3 q7).mono ?_
                    clear hz3
                    rintro e w' ⟨rfl, rfl⟩
                    go_wp2_with fail
                    refine (hfl2 q7).mono ?_
                    clear hfl2
                    rintro e w' ⟨rfl, q8, rfl⟩
                    go_wp2
                    go_ret
                    have hE := HE.out
                    exact ⟨by simp, ⟨hE.os, hE.tape, hE.output, hE.size, hE.block⟩⟩
end Go.Proofs.Qxb6618594a
