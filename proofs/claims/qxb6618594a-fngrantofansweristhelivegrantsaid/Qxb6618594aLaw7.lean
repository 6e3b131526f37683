/- The walk of the law FnGrantOfFindsTheGrantWhereverItStands. -/
import Derived.Test.Qxb6618594aLocks
import Derived.Test.Qxb6618594aGrPlain
namespace Go.Proofs.Qxb6618594a
open Go.RowKit

/-- The grants that came in: the ids tx, the modes md, the runs rn. -/
def Grants (w : World) (ao : Option Addr) (n : Nat) (tx : Nat → Nat) (md rn : Nat → Int) : Prop :=
  0 < n → ∃ b off, ao = some ⟨b, off, none⟩ ∧ ∀ j, j < n → w.cell? ⟨b, off + j * 3, none⟩ = some (.int .u16 (tx j : Int)) ∧ w.cell? ⟨b, off + j * 3 + 1, none⟩ = some (.int .u8 (md j)) ∧ w.cell? ⟨b, off + j * 3 + 2, none⟩ = some (.int .i64 (rn j))

theorem info3 : (Try.prog.info? 3).map (fun i => (i.zero, i.size, i.bytes)) = some (some (.int .i64 0), 1, 8) := by kernel_rfl
theorem info56 : (Try.prog.info? 56).map (fun i => (i.zero, i.size, i.bytes)) = some (some (.pointer none), 1, 8) := by kernel_rfl
theorem below_made {w wm : World} (h : w.grownBy wm none) : Below w.heap.size w wm := ⟨h.os, h.tape, h.output, h.size, fun k hk => h.block k hk (by simp)⟩

/-- At the making of a lock: the world named anew, with what is known of it. -/
theorem gen25 {K : Ending → World → Prop} {X : World} (Φ : World → Prop) (h1 : Φ X) (h2 : ∀ W, Φ W → Calls Try.prog 25 #[] W K) : Calls Try.prog 25 #[] X K := h2 X h1
/-- What stands behind the two first loops: 'at', 'pool', the transactions. -/
structure Stand (N : Nat) (w : World) (A P S Q n : Nat) (tx : Nat → Nat) (W : World) : Prop where
  at_ : RowIs N W A 3 (fun id => .int .i64 (atF tx n id : Int))
  pool : RowIs N W P 56 (fun id => .pointer (pp S (atF tx n id)))
  txs : ∀ j, j < n → ∃ c, W.heap[S + j]? = some (.cells c 70 (0, 0))
  qtx : ∃ c, W.heap[Q]? = some (.cells c 70 (0, 0))
  below : Below A w W
theorem Stand.on {N : Nat} {w W W' : World} {A P S Q n F : Nat} {tx : Nat → Nat} (h : Stand N w A P S Q n tx W) (hb : Below F W W') (hF : F = W.heap.size) : Stand N w A P S Q n tx W' := by
  subst hF
  refine ⟨h.at_.kept (hb.block _ h.at_.lt), h.pool.kept (hb.block _ h.pool.lt), fun j hj => ?_, ?_, h.below.trans (hb.mono (Nat.le_of_lt h.at_.lt))⟩
  · obtain ⟨c, hc⟩ := h.txs j hj; exact ⟨c, (hb.block _ (Lib.lt_of_heap hc)).trans hc⟩
  · obtain ⟨c, hc⟩ := h.qtx; exact ⟨c, (hb.block _ (Lib.lt_of_heap hc)).trans hc⟩
/-- A lock's building: k grants so far. -/
def Built (w : World) (F k : Nat) (f : Nat → Gr) : Prop := ∃ v, w.heap[F]? = some (.cells (lockCells v) 95 (0, 0)) ∧ w.ownsRow (F + 1) 91 3 v k (gcells f k)
theorem Built.lt {w : World} {F k : Nat} {f : Nat → Gr} (h : Built w F k f) : F < w.heap.size := by
  obtain ⟨v, h1, _⟩ := h
  exact Lib.lt_of_heap h1
theorem Built.on {w w' : World} {F k R : Nat} {f : Nat → Gr} (h : Built w F k f) (hb : Below R w w') (hR : R = w.heap.size) : Built w' F k f := by
  subst hR
  obtain ⟨v, h1, h2⟩ := h
  exact ⟨v, (hb.block _ (Lib.lt_of_heap h1)).trans h1, h2.kept (row := none) ⟨hb.os, hb.tape, hb.output, hb.size, fun k hk _ => hb.block k hk⟩ (by cases h : v.ownBlock <;> simp)⟩
theorem built_new (w : World) (f : Nat → Gr) : Built (w.alloc (.cells (lockCells (.slice none 0 0)) 95)) w.heap.size 0 f :=
  ⟨_, heap_alloc_new w _, World.ownsRow_nil _ _ _ _⟩
theorem add_built (F k : Nat) (f : Nat → Gr) (w : World) (h : Built w F k f) (hk : k ≤ 65536) (T : Nat) (md rn : Int) (hf : f k = (T, md, rn)) :
    Calls Try.prog 26 #[.pointer (some ⟨F, 0, none⟩), .pointer (some ⟨T, 0, none⟩), .int .u8 md, .int .i64 rn] w fun e w' => e = .returned (.tuple #[]) ∧ Built w' F (k + 1) f ∧ Below F w w' := by
  obtain ⟨v, h1, h2⟩ := h
  refine (add_any F k v (gcells f k) (some ⟨T, 0, none⟩) md rn w h1 h2 hk).mono ?_
  rintro e w' ⟨rfl, v', h3, h4, h5⟩
  refine ⟨rfl, ⟨v', h3, ?_⟩, h5⟩
  rw [gcells, hf]; exact h4

theorem grantAt_int (F cap n g j : Nat) (z : Int) (hz : z = (j : Int)) (w : World) (hF : w.heap[F]? = some (.cells (lockCells (.slice (some ⟨g, 0, none⟩) n cap)) 95 (0, 0))) (hj : j < n) :
    Calls Try.prog 28 #[.pointer (some ⟨F, 0, none⟩), .int .i64 z] w fun e w' => e = .returned (.pointer (some ⟨g, j * 3, none⟩)) ∧ w = w' := by
  subst hz; exact grantAt_any F cap n g j w hF hj
theorem gr_neq_same (a : Addr) (w : World) : (binOp .neq 74 (.pointer (some a)) (.pointer (some a))).run Try.prog w = .ok (.bool false) w := by
  obtain ⟨j, hj, _⟩ := Option.map_eq_some_iff.1 size91
  exact Lib.run_neq_ptr_same w a Try.underlying74 hj

set_option maxRecDepth 100000 in
set_option maxHeartbeats 4000000 in
theorem law7_in (ao : Option Addr) (n cap q : Nat) (tx : Nat → Nat) (md rn : Nat → Int) (w : World) (hG : Grants w ao n tx md rn) (hn : n ≤ 65536) (htx : ∀ j, j < n → tx j < 65536) (hq : q < 65536) :
    Calls Try.prog 7 #[.slice ao n cap, .int .u16 (q : Int)] w fun e w' => e = .returned (.bool true) ∧ Below w.heap.size w w' := by
  obtain ⟨i3, hi3, hz30, hz31, hz32⟩ := info_parts info3
  obtain ⟨N, hN⟩ : ∃ N : Nat, (65536 : Int) = (N : Int) := ⟨65536, rfl⟩
  have HN := Lib.hid hN
  have hb := bound7 ao n cap q w (by omega)
  have hd : decide (n ≤ 1048576) = true := by simp; omega
  rw [hd] at hb
  have hni : (n : Int) ≤ 65536 := by omega
  have hby3 : i3.bytes * N ≤ 281474976710656 := by rw [hz32]; omega
  have hml : N ≤ maxLen := by unfold maxLen; omega
  have HG := Lib.hid hG
  have HTX : Hid (∀ j, j < n → tx j < N) := fun j hj => by have := htx j hj; omega
  have hqN : (q : Int) < (N : Int) := by omega
  have hnN : (n : Int) ≤ (N : Int) := by omega
  clear hG htx hd hz32 hN
  go_enter Try.func7, Try.ntmps7
  go_wp2_with (first | (go_at_call 24; refine hb.mono ?_; rintro e w' ⟨rfl, rfl⟩) | (at_make; refine wpList_make_full _ rfl (.const (.int .i64 65536)) (.const (.int .i64 65536)) 52 rfl w.heap.size 3 i3 (.int .i64 0) 1 Try.underlying52 hi3 hz30 hz31 .i64 .i64 _ _ N rfl rfl HN.out HN.out hby3 hml (Nat.le_refl _) ?_; intro w1 ho1 hg1; refine Hid.out ?_))
  have hA := RowIs.made (z := .int .i64 0) rfl ho1
  have hB1 := below_made hg1
  have HA := Lib.hid hA
  have HB1 := Lib.hid hB1
  clear ho1 hg1 hA hB1 hi3 hz30 hz31 hby3
  refine Lib.hid ?_
  go_wp2_with fail
  go_loopw [7] (fun t wr => ∃ k : Nat, k ≤ n ∧ t = .int .i64 (k : Int) ∧ Hid (RowIs N wr w.heap.size 3 (fun id => .int .i64 (atF tx k id : Int))) ∧ Hid (Dist tx k) ∧ Hid (Below w.heap.size w wr)) (fun t _ => n - (intOf t).toNat)
  case atStart => exact ⟨0, Nat.zero_le _, rfl, HA, dist_zero tx, HB1⟩
  case round =>
    obtain ⟨k, hk, rfl, HR, HD, HB⟩ := hrel
    clear HA HB1
    by_cases hkn : k < n
    · obtain ⟨b, off, rfl, hc⟩ := HG.out (by omega)
      have hbl := block_lt_of_cell (hc k hkn).1
      have c1 : wr.cell? ⟨b, off + k * 3, none⟩ = some (.int .u16 (tx k : Int)) := (HB.out.cell (p := ⟨b, off + k * 3, none⟩) hbl).trans (hc k hkn).1
      have ht := HTX.out k hkn
      have c2 := HR.out.cell (tx k) ht
      have f2 := HR.out.free (tx k)
      have j1 : (0 : Int) ≤ (k : Int) := by omega
      have j2 : (k : Int) < (n : Int) := by omega
      have j3 : (tx k : Int) < (N : Int) := by omega
      have j5 : (tx k : Int) ≤ 100000 := by have := HN.out; omega
      have j4 : (0 : Int) ≤ (tx k : Int) := by omega
      clear hc hbl
      by_cases h0 : atF tx k (tx k) = 0
      · have HD2 : Hid (Dist tx (k + 1)) := dist_succ HD.out h0
        have HR2 := Lib.hid (at_step HR.out)
        have HB2 := Lib.hid (HB.out.setCell (p := ⟨w.heap.size, tx k, none⟩) (Nat.le_refl _) (.int .i64 ((k : Int) + 1)))
        rw [h0] at c2
        clear HR HD HB h0
        go_wp2_with fail
        go_roundw
        case rel => exact ⟨k + 1, by omega, by go_num, HR2, HD2, HB2⟩
        case measure => simp [intOf]; omega
      · go_wp2_with fail
        go_ret
        exact ⟨rfl, HB.out⟩
    · obtain rfl : n = k := by omega
      obtain ⟨i56, hi56, hz560, hz561, hz562⟩ := info_parts info56
      have hby56 : i56.bytes * N ≤ 281474976710656 := by rw [hz562]; have := HN.out; omega
      clear hz562
      go_wp2_with (at_make; refine wpList_make_full _ rfl (.const (.int .i64 65536)) (.const (.int .i64 65536)) 55 rfl wr.heap.size 56 i56 (.pointer none) 1 Try.underlying55 hi56 hz560 hz561 .i64 .i64 _ _ N rfl rfl HN.out HN.out hby56 hml (Nat.le_refl _) ?_; intro w2 ho2 hg2; refine Hid.out ?_)
      have hP := RowIs.made (z := .pointer none) rfl ho2
      have hB2 := below_made hg2
      have HA2 := Lib.hid (HR.out.kept (hB2.block _ HR.out.lt))
      have HB2 := Lib.hid (HB.out.trans (hB2.mono HB.out.size))
      have HAP := Lib.hid HR.out.lt
      have HP2 := Lib.hid hP
      have HPS := Lib.hid hP.lt
      generalize wr.heap.size = P at *
      clear ho2 hg2 hP hB2 hi56 hz560 hz561 hby56 HR HB hkn hml
      refine Lib.hid ?_
      go_wp2_with fail
      go_loopw [10] (fun t wr => ∃ k : Nat, k ≤ n ∧ t = .int .i64 (k : Int) ∧ Hid (RowIs N wr P 56 (fun id => .pointer (pp w2.heap.size (atF tx k id)))) ∧ Hid (wr.heap.size = w2.heap.size + k) ∧ Hid (∀ j, j < k → ∃ c, wr.heap[w2.heap.size + j]? = some (.cells c 70 (0, 0))) ∧ Hid (Below P w2 wr)) (fun t _ => n - (intOf t).toNat)
      case atStart => exact ⟨0, Nat.zero_le _, rfl, HP2, rfl, fun j hj => absurd hj (by omega), Below.refl _ _⟩
      case round =>
        obtain ⟨k, hk2, rfl, HP, HS, HT, HBP⟩ := hrel
        clear HP2
        by_cases hkn : k < n
        · obtain ⟨b, off, rfl, hc⟩ := HG.out (by omega)
          have hbl := block_lt_of_cell (hc k hkn).1
          have c1 : wr.cell? ⟨b, off + k * 3, none⟩ = some (.int .u16 (tx k : Int)) := (HBP.out.cell (p := ⟨b, off + k * 3, none⟩) (Nat.lt_trans hbl HAP.out)).trans ((HB2.out.cell (p := ⟨b, off + k * 3, none⟩) hbl).trans (hc k hkn).1)
          have ht := HTX.out k hkn
          have c2 := HP.out.cell (tx k) ht
          have f2 := HP.out.free (tx k)
          have j1 : (0 : Int) ≤ (k : Int) := by omega
          have j2 : (k : Int) < (n : Int) := by omega
          have j3 : (tx k : Int) < (N : Int) := by omega
          have j5 : (tx k : Int) ≤ 100000 := by have := HN.out; omega
          have j4 : (0 : Int) ≤ (tx k : Int) := by omega
          have hPlt := HP.out.lt
          have HP3 := fun o => Lib.hid (pool_step HP.out HS.out o)
          clear hc hbl HP
          generalize pp w2.heap.size (atF tx k (tx k)) = op at *
          go_wp2_with fail
          go_roundw
          case rel =>
            have hpr := fun c => pool_rest (c := c) (id := tx k) (v := .pointer (some ⟨wr.heap.size, 0, none⟩)) HS.out HT.out HBP.out HPS.out
            exact ⟨k + 1, by omega, by go_num, HP3 _, (hpr _).1, (hpr _).2.1, (hpr _).2.2⟩
          case measure => simp [intOf]; omega
        · obtain rfl : n = k := by omega
          have c3 := HP.out.cell q (by omega)
          have hq0 : (0 : Int) ≤ (q : Int) := by omega
          have hq1 : (q : Int) ≤ 100000 := by omega
          have HAw := Lib.hid (HA2.out.kept (HBP.out.block _ HAP.out))
          have HBw := Lib.hid (HB2.out.trans (HBP.out.mono (Nat.le_of_lt HAP.out)))
          generalize hS0 : w2.heap.size = S at *
          have hz : Hid (S + n = wr.heap.size) := HS.out.symm
          clear HB2 HA2 HBP hS0
          cases hm : atF tx n q with
          | zero =>
            have HM := Lib.hid hm
            rw [hm] at c3
            clear hm
            have c4 : wr.cell? ⟨P, q, none⟩ = some (.pointer none) := c3
            clear c3
            have hSt : ∀ c, Stand N w w.heap.size P S wr.heap.size n tx (wr.alloc (.cells c 70)) := fun c =>
              ⟨HAw.out.kept (Below.heap_alloc _ _ _ HAw.out.lt), HP.out.kept (Below.heap_alloc _ _ _ HP.out.lt), fun j hj => by
                obtain ⟨c', hc⟩ := HT.out j hj
                exact ⟨c', (Below.heap_alloc _ _ _ (Lib.lt_of_heap hc)).trans hc⟩, ⟨c, heap_alloc_new wr _⟩, HBw.out.alloc (Nat.le_of_lt HAw.out.lt) _⟩
            have HSt := Lib.hid hSt
            clear hSt
            go_wp2_with fail
            refine gen25 (Stand N w w.heap.size P S wr.heap.size n tx) (HSt.out _) ?_
            clear HSt HAw HP HT HBw HS c4
            intro W3 hSt3
            generalize wr.heap.size = Q at *
            have HSt := Lib.hid hSt3
            clear hSt3
            refine (newLock_any W3).mono ?_
            rintro e w' ⟨rfl, rfl⟩
            have HBu := Lib.hid (built_new W3 (fun j => ((S + j, md j, rn j) : Gr)))
            have HB3 := Lib.hid ((Below.refl W3.heap.size W3).alloc (Nat.le_refl _) (.cells (lockCells (.slice none 0 0)) 95))
            go_wp2_with fail
            go_loopw [13] (fun t wr => ∃ k : Nat, k ≤ n ∧ t = .int .i64 (k : Int) ∧ Hid (Built wr W3.heap.size k (fun j => ((S + j, md j, rn j) : Gr))) ∧ Hid (Below W3.heap.size W3 wr)) (fun t _ => n - (intOf t).toNat)
            case atStart => exact ⟨0, Nat.zero_le _, rfl, HBu, HB3⟩
            case round =>
              obtain ⟨k, hk3, rfl, HBk, HBF⟩ := hrel
              clear HBu HB3
              by_cases hkn : k < n
              · obtain ⟨b, off, rfl, hc⟩ := HG.out (by omega)
                have hbl := block_lt_of_cell (hc k hkn).1
                have hB := HSt.out.below.trans (HBF.out.mono (Nat.le_of_lt HSt.out.at_.lt))
                have ht := HTX.out k hkn
                have c0 := (hB.cell (p := ⟨b, off + k * 3, none⟩) hbl).trans (hc k hkn).1
                have c1 := (hB.cell (p := ⟨b, off + k * 3 + 1, none⟩) hbl).trans (hc k hkn).2.1
                have c2 := (hB.cell (p := ⟨b, off + k * 3 + 2, none⟩) hbl).trans (hc k hkn).2.2
                have cp : wr.cell? ⟨P, tx k, none⟩ = some (.pointer (some ⟨S + k, 0, none⟩)) := by
                  have h1 := (HSt.out.on HBF.out rfl).pool.cell (tx k) ht
                  rw [atF_at HD.out k hkn] at h1
                  exact h1
                have hPF := HSt.out.pool.lt
                have hbF : b < W3.heap.size := Nat.lt_trans hbl HSt.out.at_.lt
                have hadd := fun q' => add_built W3.heap.size k (fun j => ((S + j, md j, rn j) : Gr)) (wr.drewN q') HBk.out (by omega) (S + k) (md k) (rn k) rfl
                have j1 : (0 : Int) ≤ (k : Int) := by omega
                have j2 : (k : Int) < (n : Int) := by omega
                have j3 : (tx k : Int) < (N : Int) := by omega
                have j5 : (tx k : Int) ≤ 100000 := by have := HN.out; omega
                have j4 : (0 : Int) ≤ (tx k : Int) := by omega
                have hw : IntKind.i64.wrap (tx k : Int) = (tx k : Int) := by rw [IntKind.wrap_i64]; omega
                clear hc hB HBk
                go_wp2_with fail
                go_region_held3 (fun w' => w'.cell? ⟨b, off + k * 3, none⟩ = some (.int .u16 (tx k : Int)) ∧ w'.cell? ⟨b, off + k * 3 + 1, none⟩ = some (.int .u8 (md k)) ∧ w'.cell? ⟨b, off + k * 3 + 2, none⟩ = some (.int .i64 (rn k)) ∧ w'.cell? ⟨P, tx k, none⟩ = some (.pointer (some ⟨S + k, 0, none⟩))) (first | exact ⟨c0, c1, c2, cp⟩ | exact ⟨(hB6.cell (p := ⟨b, off + k * 3, none⟩) hbF).trans c0, (hB6.cell (p := ⟨b, off + k * 3 + 1, none⟩) hbF).trans c1, (hB6.cell (p := ⟨b, off + k * 3 + 2, none⟩) hbF).trans c2, (hB6.cell (p := ⟨P, tx k, none⟩) hPF).trans cp⟩)
                  ((go_at_call 26; refine (hadd 1).mono ?_; rintro e w6 ⟨rfl, hBu6, hB6⟩))
                have HBu6 := Lib.hid hBu6
                have HB6 : Hid (Below W3.heap.size W3 w6) := HBF.out.trans ⟨hB6.os, hB6.tape, hB6.output, hB6.size, hB6.block⟩
                clear hBu6 hB6 hadd c0 c1 c2 cp
                go_wp2_with fail
                go_roundw
                case rel => exact ⟨k + 1, by omega, by go_num, HBu6, HB6⟩
                case measure => simp [intOf]; omega
              · obtain rfl : n = k := by omega
                have hSt5 := HSt.out.on HBF.out rfl
                have hBl := HBk.out
                have HX := Lib.hid (And.intro hSt5 hBl)
                clear hSt5 hBl HBk HBF HSt hkn hk3
                generalize W3.heap.size = F at *
                go_wp2_with fail
                refine gen25 (fun W => Stand N w w.heap.size P S Q n tx W ∧ Built W F n (fun j => ((S + j, md j, rn j) : Gr))) HX.out ?_
                clear HX
                intro W5 hW5
                have HSt := Lib.hid hW5.1
                have HBf := Lib.hid hW5.2
                clear hW5
                refine (newLock_any W5).mono ?_
                rintro e w' ⟨rfl, rfl⟩
                have HBu := Lib.hid (built_new W5 (fun j => ((S + (n - 1 - j), md (n - 1 - j), rn (n - 1 - j)) : Gr)))
                have HB5 := Lib.hid ((Below.refl W5.heap.size W5).alloc (Nat.le_refl _) (.cells (lockCells (.slice none 0 0)) 95))
                go_wp2_with fail
                go_loopw [15] (fun t wr => ∃ (k : Nat) (z : Int), k ≤ n ∧ t = .int .i64 z ∧ Hid (z = (n : Int) - 1 - k) ∧ Hid (Built wr W5.heap.size k (fun j => ((S + (n - 1 - j), md (n - 1 - j), rn (n - 1 - j)) : Gr))) ∧ Hid (Below W5.heap.size W5 wr)) (fun t _ => (intOf t + 1).toNat)
                case atStart => exact ⟨0, (n : Int) - 1, Nat.zero_le _, rfl, by show _ = _; omega, HBu, HB5⟩
                case round =>
                  obtain ⟨k, z, hk4, rfl, HZ, HBk, HBF⟩ := hrel
                  clear HBu HB5
                  by_cases hkn : k < n
                  · obtain ⟨i, rfl⟩ : ∃ i : Nat, z = (i : Int) := ⟨n - 1 - k, by have := HZ.out; omega⟩
                    have hik : i + k + 1 = n := by have := HZ.out; omega
                    have HIK := Lib.hid hik
                    have hin : i < n := by omega
                    obtain ⟨b, off, rfl, hc⟩ := HG.out (by omega)
                    have hbl := block_lt_of_cell (hc i hin).1
                    have hB := HSt.out.below.trans (HBF.out.mono (Nat.le_of_lt HSt.out.at_.lt))
                    have ht := HTX.out i hin
                    have c0 := (hB.cell (p := ⟨b, off + i * 3, none⟩) hbl).trans (hc i hin).1
                    have c1 := (hB.cell (p := ⟨b, off + i * 3 + 1, none⟩) hbl).trans (hc i hin).2.1
                    have c2 := (hB.cell (p := ⟨b, off + i * 3 + 2, none⟩) hbl).trans (hc i hin).2.2
                    have cp : wr.cell? ⟨P, tx i, none⟩ = some (.pointer (some ⟨S + i, 0, none⟩)) := by
                      have h1 := (HSt.out.on HBF.out rfl).pool.cell (tx i) ht
                      rw [atF_at HD.out i hin] at h1
                      exact h1
                    have hPF := HSt.out.pool.lt
                    have hbF : b < W5.heap.size := Nat.lt_trans hbl HSt.out.at_.lt
                    have hadd := fun q' => add_built W5.heap.size k (fun j => ((S + (n - 1 - j), md (n - 1 - j), rn (n - 1 - j)) : Gr)) (wr.drewN q') HBk.out (by omega) (S + i) (md i) (rn i) (by rw [show n - 1 - k = i by omega])
                    have j1 : (0 : Int) ≤ (i : Int) := by omega
                    have j2 : (i : Int) < (n : Int) := by omega
                    have j3 : (tx i : Int) < (N : Int) := by omega
                    have j5 : (tx i : Int) ≤ 100000 := by have := HN.out; omega
                    have j4 : (0 : Int) ≤ (tx i : Int) := by omega
                    have hw : IntKind.i64.wrap (tx i : Int) = (tx i : Int) := by rw [IntKind.wrap_i64]; omega
                    clear hc hB HBk HZ hik
                    go_wp2_with fail
                    go_region_held3 (fun w' => w'.cell? ⟨b, off + i * 3, none⟩ = some (.int .u16 (tx i : Int)) ∧ w'.cell? ⟨b, off + i * 3 + 1, none⟩ = some (.int .u8 (md i)) ∧ w'.cell? ⟨b, off + i * 3 + 2, none⟩ = some (.int .i64 (rn i)) ∧ w'.cell? ⟨P, tx i, none⟩ = some (.pointer (some ⟨S + i, 0, none⟩))) (first | exact ⟨c0, c1, c2, cp⟩ | exact ⟨(hB6.cell (p := ⟨b, off + i * 3, none⟩) hbF).trans c0, (hB6.cell (p := ⟨b, off + i * 3 + 1, none⟩) hbF).trans c1, (hB6.cell (p := ⟨b, off + i * 3 + 2, none⟩) hbF).trans c2, (hB6.cell (p := ⟨P, tx i, none⟩) hPF).trans cp⟩)
                      ((go_at_call 26; refine (hadd 1).mono ?_; rintro e w6 ⟨rfl, hBu6, hB6⟩))
                    have HBu6 := Lib.hid hBu6
                    have HB6 : Hid (Below W5.heap.size W5 w6) := HBF.out.trans ⟨hB6.os, hB6.tape, hB6.output, hB6.size, hB6.block⟩
                    clear hBu6 hB6 hadd c0 c1 c2 cp
                    go_wp2_with fail
                    go_roundw
                    case rel => exact ⟨k + 1, (i : Int) - 1, by omega, rfl, by show _ = _; have := HIK.out; omega, HBu6, HB6⟩
                    case measure => simp [intOf]
                  · obtain rfl : n = k := by omega
                    have hz0 : z < 0 := by have := HZ.out; omega
                    have hSt6 := HSt.out.on HBF.out rfl
                    have hBf6 := Built.on HBf.out HBF.out rfl
                    have hBr6 := HBk.out
                    have HX := Lib.hid (And.intro hSt6 (And.intro hBf6 hBr6))
                    have HFR := Lib.hid (Built.lt HBf.out)
                    clear hSt6 hBf6 hBr6 HBk HBF HBf HSt hkn hk4 HZ
                    generalize W5.heap.size = R at *
                    obtain ⟨hSt, hBf, hBr⟩ := HX.out
                    obtain ⟨v1, hv1, ho1⟩ := hBf
                    obtain ⟨ao1, cap1, rfl, hH1⟩ := holds_of_own hv1 ho1
                    obtain ⟨v2, hv2, ho2⟩ := hBr
                    obtain ⟨ao2, cap2, rfl, hH2⟩ := holds_of_own hv2 ho2
                    have hQ := hz.out
                    have hz1 := zzGrantOf_any F cap1 n Q ao1 none (fun j => ((S + j, md j, rn j) : Gr)) wr hH1 hn (fun j hj => hSt.txs j hj) hSt.qtx (Or.inr ⟨fun i hi => by show S + i ≠ Q; omega, rfl⟩)
                    have hz2 := zzGrantOf_any R cap2 n Q ao2 none (fun j => ((S + (n - 1 - j), md (n - 1 - j), rn (n - 1 - j)) : Gr)) wr hH2 hn (fun j hj => hSt.txs (n - 1 - j) (by omega)) hSt.qtx (Or.inr ⟨fun i hi => by show S + (n - 1 - i) ≠ Q; omega, rfl⟩)
                    have ca : wr.cell? ⟨w.heap.size, q, none⟩ = some (.int .i64 0) := by
                      have h := hSt.at_.cell q (by omega)
                      rw [HM.out] at h
                      simpa using h
                    have HE := Lib.hid hSt.below
                    clear HX hH1 hH2 hv1 hv2 ho1 ho2 hSt hQ
                    go_wp2_with fail
                    refine hz1.mono ?_
                    clear hz1
                    rintro e w' ⟨rfl, rfl⟩
                    go_wp2_with fail
                    refine hz2.mono ?_
                    clear hz2
                    rintro e w' ⟨rfl, rfl⟩
                    go_wp2
                    go_ret
                    exact ⟨rfl, HE.out⟩
          | succ m =>
            have HM := Lib.hid hm
            rw [hm] at c3
            obtain ⟨hmn, hmq⟩ := atF_pos tx n q m hm
            have HMQ := Lib.hid hmq
            clear hm hmq
            have c4 : wr.cell? ⟨P, q, none⟩ = some (.pointer (some ⟨S + m, 0, none⟩)) := c3
            clear c3
            have hSt : Stand N w w.heap.size P S (S + m) n tx wr := ⟨HAw.out, HP.out, HT.out, HT.out m hmn, HBw.out⟩
            have HSt := Lib.hid hSt
            clear hSt
            generalize hQ : S + m = Q at *
            have HQ := Lib.hid hQ
            clear hQ
            go_wp2_with fail
            refine gen25 (Stand N w w.heap.size P S Q n tx) HSt.out ?_
            clear HSt HAw HP HT HBw HS c4
            intro W3 hSt3
            have HSt := Lib.hid hSt3
            clear hSt3
            refine (newLock_any W3).mono ?_
            rintro e w' ⟨rfl, rfl⟩
            have HBu := Lib.hid (built_new W3 (fun j => ((S + j, md j, rn j) : Gr)))
            have HB3 := Lib.hid ((Below.refl W3.heap.size W3).alloc (Nat.le_refl _) (.cells (lockCells (.slice none 0 0)) 95))
            go_wp2_with fail
            go_loopw [13] (fun t wr => ∃ k : Nat, k ≤ n ∧ t = .int .i64 (k : Int) ∧ Hid (Built wr W3.heap.size k (fun j => ((S + j, md j, rn j) : Gr))) ∧ Hid (Below W3.heap.size W3 wr)) (fun t _ => n - (intOf t).toNat)
            case atStart => exact ⟨0, Nat.zero_le _, rfl, HBu, HB3⟩
            case round =>
              obtain ⟨k, hk3, rfl, HBk, HBF⟩ := hrel
              clear HBu HB3
              by_cases hkn : k < n
              · obtain ⟨b, off, rfl, hc⟩ := HG.out (by omega)
                have hbl := block_lt_of_cell (hc k hkn).1
                have hB := HSt.out.below.trans (HBF.out.mono (Nat.le_of_lt HSt.out.at_.lt))
                have ht := HTX.out k hkn
                have c0 := (hB.cell (p := ⟨b, off + k * 3, none⟩) hbl).trans (hc k hkn).1
                have c1 := (hB.cell (p := ⟨b, off + k * 3 + 1, none⟩) hbl).trans (hc k hkn).2.1
                have c2 := (hB.cell (p := ⟨b, off + k * 3 + 2, none⟩) hbl).trans (hc k hkn).2.2
                have cp : wr.cell? ⟨P, tx k, none⟩ = some (.pointer (some ⟨S + k, 0, none⟩)) := by
                  have h1 := (HSt.out.on HBF.out rfl).pool.cell (tx k) ht
                  rw [atF_at HD.out k hkn] at h1
                  exact h1
                have hPF := HSt.out.pool.lt
                have hbF : b < W3.heap.size := Nat.lt_trans hbl HSt.out.at_.lt
                have hadd := fun q' => add_built W3.heap.size k (fun j => ((S + j, md j, rn j) : Gr)) (wr.drewN q') HBk.out (by omega) (S + k) (md k) (rn k) rfl
                have j1 : (0 : Int) ≤ (k : Int) := by omega
                have j2 : (k : Int) < (n : Int) := by omega
                have j3 : (tx k : Int) < (N : Int) := by omega
                have j5 : (tx k : Int) ≤ 100000 := by have := HN.out; omega
                have j4 : (0 : Int) ≤ (tx k : Int) := by omega
                have hw : IntKind.i64.wrap (tx k : Int) = (tx k : Int) := by rw [IntKind.wrap_i64]; omega
                clear hc hB HBk
                go_wp2_with fail
                go_region_held3 (fun w' => w'.cell? ⟨b, off + k * 3, none⟩ = some (.int .u16 (tx k : Int)) ∧ w'.cell? ⟨b, off + k * 3 + 1, none⟩ = some (.int .u8 (md k)) ∧ w'.cell? ⟨b, off + k * 3 + 2, none⟩ = some (.int .i64 (rn k)) ∧ w'.cell? ⟨P, tx k, none⟩ = some (.pointer (some ⟨S + k, 0, none⟩))) (first | exact ⟨c0, c1, c2, cp⟩ | exact ⟨(hB6.cell (p := ⟨b, off + k * 3, none⟩) hbF).trans c0, (hB6.cell (p := ⟨b, off + k * 3 + 1, none⟩) hbF).trans c1, (hB6.cell (p := ⟨b, off + k * 3 + 2, none⟩) hbF).trans c2, (hB6.cell (p := ⟨P, tx k, none⟩) hPF).trans cp⟩)
                  ((go_at_call 26; refine (hadd 1).mono ?_; rintro e w6 ⟨rfl, hBu6, hB6⟩))
                have HBu6 := Lib.hid hBu6
                have HB6 : Hid (Below W3.heap.size W3 w6) := HBF.out.trans ⟨hB6.os, hB6.tape, hB6.output, hB6.size, hB6.block⟩
                clear hBu6 hB6 hadd c0 c1 c2 cp
                go_wp2_with fail
                go_roundw
                case rel => exact ⟨k + 1, by omega, by go_num, HBu6, HB6⟩
                case measure => simp [intOf]; omega
              · obtain rfl : n = k := by omega
                have hSt5 := HSt.out.on HBF.out rfl
                have hBl := HBk.out
                have HX := Lib.hid (And.intro hSt5 hBl)
                clear hSt5 hBl HBk HBF HSt hkn hk3
                generalize W3.heap.size = F at *
                go_wp2_with fail
                refine gen25 (fun W => Stand N w w.heap.size P S Q n tx W ∧ Built W F n (fun j => ((S + j, md j, rn j) : Gr))) HX.out ?_
                clear HX
                intro W5 hW5
                have HSt := Lib.hid hW5.1
                have HBf := Lib.hid hW5.2
                clear hW5
                refine (newLock_any W5).mono ?_
                rintro e w' ⟨rfl, rfl⟩
                have HBu := Lib.hid (built_new W5 (fun j => ((S + (n - 1 - j), md (n - 1 - j), rn (n - 1 - j)) : Gr)))
                have HB5 := Lib.hid ((Below.refl W5.heap.size W5).alloc (Nat.le_refl _) (.cells (lockCells (.slice none 0 0)) 95))
                go_wp2_with fail
                go_loopw [15] (fun t wr => ∃ (k : Nat) (z : Int), k ≤ n ∧ t = .int .i64 z ∧ Hid (z = (n : Int) - 1 - k) ∧ Hid (Built wr W5.heap.size k (fun j => ((S + (n - 1 - j), md (n - 1 - j), rn (n - 1 - j)) : Gr))) ∧ Hid (Below W5.heap.size W5 wr)) (fun t _ => (intOf t + 1).toNat)
                case atStart => exact ⟨0, (n : Int) - 1, Nat.zero_le _, rfl, by show _ = _; omega, HBu, HB5⟩
                case round =>
                  obtain ⟨k, z, hk4, rfl, HZ, HBk, HBF⟩ := hrel
                  clear HBu HB5
                  by_cases hkn : k < n
                  · obtain ⟨i, rfl⟩ : ∃ i : Nat, z = (i : Int) := ⟨n - 1 - k, by have := HZ.out; omega⟩
                    have hik : i + k + 1 = n := by have := HZ.out; omega
                    have HIK := Lib.hid hik
                    have hin : i < n := by omega
                    obtain ⟨b, off, rfl, hc⟩ := HG.out (by omega)
                    have hbl := block_lt_of_cell (hc i hin).1
                    have hB := HSt.out.below.trans (HBF.out.mono (Nat.le_of_lt HSt.out.at_.lt))
                    have ht := HTX.out i hin
                    have c0 := (hB.cell (p := ⟨b, off + i * 3, none⟩) hbl).trans (hc i hin).1
                    have c1 := (hB.cell (p := ⟨b, off + i * 3 + 1, none⟩) hbl).trans (hc i hin).2.1
                    have c2 := (hB.cell (p := ⟨b, off + i * 3 + 2, none⟩) hbl).trans (hc i hin).2.2
                    have cp : wr.cell? ⟨P, tx i, none⟩ = some (.pointer (some ⟨S + i, 0, none⟩)) := by
                      have h1 := (HSt.out.on HBF.out rfl).pool.cell (tx i) ht
                      rw [atF_at HD.out i hin] at h1
                      exact h1
                    have hPF := HSt.out.pool.lt
                    have hbF : b < W5.heap.size := Nat.lt_trans hbl HSt.out.at_.lt
                    have hadd := fun q' => add_built W5.heap.size k (fun j => ((S + (n - 1 - j), md (n - 1 - j), rn (n - 1 - j)) : Gr)) (wr.drewN q') HBk.out (by omega) (S + i) (md i) (rn i) (by rw [show n - 1 - k = i by omega])
                    have j1 : (0 : Int) ≤ (i : Int) := by omega
                    have j2 : (i : Int) < (n : Int) := by omega
                    have j3 : (tx i : Int) < (N : Int) := by omega
                    have j5 : (tx i : Int) ≤ 100000 := by have := HN.out; omega
                    have j4 : (0 : Int) ≤ (tx i : Int) := by omega
                    have hw : IntKind.i64.wrap (tx i : Int) = (tx i : Int) := by rw [IntKind.wrap_i64]; omega
                    clear hc hB HBk HZ hik
                    go_wp2_with fail
                    go_region_held3 (fun w' => w'.cell? ⟨b, off + i * 3, none⟩ = some (.int .u16 (tx i : Int)) ∧ w'.cell? ⟨b, off + i * 3 + 1, none⟩ = some (.int .u8 (md i)) ∧ w'.cell? ⟨b, off + i * 3 + 2, none⟩ = some (.int .i64 (rn i)) ∧ w'.cell? ⟨P, tx i, none⟩ = some (.pointer (some ⟨S + i, 0, none⟩))) (first | exact ⟨c0, c1, c2, cp⟩ | exact ⟨(hB6.cell (p := ⟨b, off + i * 3, none⟩) hbF).trans c0, (hB6.cell (p := ⟨b, off + i * 3 + 1, none⟩) hbF).trans c1, (hB6.cell (p := ⟨b, off + i * 3 + 2, none⟩) hbF).trans c2, (hB6.cell (p := ⟨P, tx i, none⟩) hPF).trans cp⟩)
                      ((go_at_call 26; refine (hadd 1).mono ?_; rintro e w6 ⟨rfl, hBu6, hB6⟩))
                    have HBu6 := Lib.hid hBu6
                    have HB6 : Hid (Below W5.heap.size W5 w6) := HBF.out.trans ⟨hB6.os, hB6.tape, hB6.output, hB6.size, hB6.block⟩
                    clear hBu6 hB6 hadd c0 c1 c2 cp
                    go_wp2_with fail
                    go_roundw
                    case rel => exact ⟨k + 1, (i : Int) - 1, by omega, rfl, by show _ = _; have := HIK.out; omega, HBu6, HB6⟩
                    case measure => simp [intOf]
                  · obtain rfl : n = k := by omega
                    have hz0 : z < 0 := by have := HZ.out; omega
                    have hSt6 := HSt.out.on HBF.out rfl
                    have hBf6 := Built.on HBf.out HBF.out rfl
                    have hBr6 := HBk.out
                    have HX := Lib.hid (And.intro hSt6 (And.intro hBf6 hBr6))
                    have HFR := Lib.hid (Built.lt HBf.out)
                    clear hSt6 hBf6 hBr6 HBk HBF HBf HSt hkn hk4 HZ
                    generalize W5.heap.size = R at *
                    obtain ⟨hSt, hBf, hBr⟩ := HX.out
                    obtain ⟨v1, hv1, ho1⟩ := hBf
                    obtain ⟨ao1, cap1, rfl, hH1⟩ := holds_of_own hv1 ho1
                    obtain ⟨g1, cur1, rfl, hFg1, hg1, hc1⟩ := hH1.2 (by omega)
                    obtain ⟨v2, hv2, ho2⟩ := hBr
                    obtain ⟨ao2, cap2, rfl, hH2⟩ := holds_of_own hv2 ho2
                    obtain ⟨g2, cur2, rfl, hFg2, hg2, hc2⟩ := hH2.2 (by omega)
                    have hQ := HQ.out
                    obtain ⟨p, hp⟩ : ∃ p, p + m + 1 = n := ⟨n - 1 - m, by omega⟩
                    have hnp : n - 1 - p = m := by omega
                    have hz1 := zzGrantOf_any F cap1 n Q (some ⟨g1, 0, none⟩) (some ⟨g1, m * 3, none⟩) (fun j => ((S + j, md j, rn j) : Gr)) wr hH1 hn (fun j hj => hSt.txs j hj) hSt.qtx (Or.inl ⟨m, g1, hmn, rfl, hQ, fun i hi => by show S + i ≠ Q; omega, rfl⟩)
                    have hz2 := zzGrantOf_any R cap2 n Q (some ⟨g2, 0, none⟩) (some ⟨g2, p * 3, none⟩) (fun j => ((S + (n - 1 - j), md (n - 1 - j), rn (n - 1 - j)) : Gr)) wr hH2 hn (fun j hj => hSt.txs (n - 1 - j) (by omega)) hSt.qtx (Or.inl ⟨p, g2, by omega, rfl, by show S + (n - 1 - p) = Q; omega, fun i hi => by show S + (n - 1 - i) ≠ Q; omega, rfl⟩)
                    have ca : wr.cell? ⟨w.heap.size, q, none⟩ = some (.int .i64 ((m : Int) + 1)) := by
                      have h := hSt.at_.cell q (by omega)
                      rw [HM.out] at h
                      simpa using h
                    have d1 := hc1 m hmn
                    have d2 := hc2 p (by omega)
                    have d10 : wr.cell? ⟨g1, m * 3, none⟩ = some (.pointer (some ⟨Q, 0, none⟩)) := by rw [← hQ]; exact d1.1
                    have d11 : wr.cell? ⟨g1, m * 3 + 1, none⟩ = some (.int .u8 (md m)) := d1.2.1
                    have d12 : wr.cell? ⟨g1, m * 3 + 2, none⟩ = some (.int .i64 (rn m)) := d1.2.2
                    have d20 : wr.cell? ⟨g2, p * 3, none⟩ = some (.pointer (some ⟨Q, 0, none⟩)) := by rw [← hQ, d2.1]; show some (Value.pointer (some ⟨S + (n - 1 - p), 0, none⟩)) = _; rw [hnp]
                    have d21 : wr.cell? ⟨g2, p * 3 + 1, none⟩ = some (.int .u8 (md m)) := by rw [d2.2.1]; show some (Value.int .u8 (md (n - 1 - p))) = _; rw [hnp]
                    have d22 : wr.cell? ⟨g2, p * 3 + 2, none⟩ = some (.int .i64 (rn m)) := by rw [d2.2.2]; show some (Value.int .i64 (rn (n - 1 - p))) = _; rw [hnp]
                    have hf1 := fields_any g1 (m * 3) (some ⟨Q, 0, none⟩) (md m) (rn m) wr d10 d11 d12
                    have hf2 := fun q' => fields_any g2 (p * 3) (some ⟨Q, 0, none⟩) (md m) (rn m) (wr.drewN q') d20 d21 d22
                    obtain ⟨b, off, rfl, hc⟩ := HG.out (by omega)
                    have hbl := block_lt_of_cell (hc m hmn).1
                    have c1 := (hSt.below.cell (p := ⟨b, off + m * 3 + 1, none⟩) hbl).trans (hc m hmn).2.1
                    have c2 := (hSt.below.cell (p := ⟨b, off + m * 3 + 2, none⟩) hbl).trans (hc m hmn).2.2
                    have HE := Lib.hid hSt.below
                    have hga1 := grantAt_int F cap1 n g1 m (m : Int) rfl wr hv1 hmn
                    have hga2 := grantAt_int R cap2 n g2 p ((n : Int) - 1 - (m : Int)) (by omega) wr hv2 (by omega)
                    have hns1 := gr_neq_same ⟨g1, m * 3, none⟩
                    have hns2 := gr_neq_same ⟨g2, p * 3, none⟩
                    have hts := tx_same ⟨Q, 0, none⟩
                    have m0 : (0 : Int) ≤ (m : Int) := by omega
                    have m1 : (m : Int) < (n : Int) := by omega
                    clear HX d1 d2 d10 d11 d12 d20 d21 d22 hc hH1 hH2 hv1 hv2 ho1 ho2 hc1 hc2 hg1 hg2 hSt hQ hp hnp
                    go_wp2_with fail
                    refine hz1.mono ?_
                    clear hz1
                    rintro e w' ⟨rfl, rfl⟩
                    go_wp2_with fail
                    refine hz2.mono ?_
                    clear hz2
                    rintro e w' ⟨rfl, rfl⟩
                    go_wp2_with fail
                    refine hga1.mono ?_
                    clear hga1
                    rintro e w' ⟨rfl, rfl⟩
                    go_wp2_with fail
                    refine hga2.mono ?_
                    clear hga2
                    rintro e w' ⟨rfl, rfl⟩
                    go_wp2_with fail
                    refine hf1.mono ?_
                    clear hf1
                    rintro e w' ⟨rfl, q7, rfl⟩
                    go_wp2_with fail
                    refine (hf2 q7).mono ?_
                    clear hf2
                    rintro e w' ⟨rfl, q8, rfl⟩
                    go_wp2
                    go_ret
                    have hE := HE.out
                    exact ⟨by simp, ⟨hE.os, hE.tape, hE.output, hE.size, hE.block⟩⟩
end Go.Proofs.Qxb6618594a
