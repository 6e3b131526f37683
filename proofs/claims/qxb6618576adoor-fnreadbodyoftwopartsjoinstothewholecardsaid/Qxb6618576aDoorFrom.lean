/- (*bytes.Buffer).ReadFrom a *bytes.Reader. -/
import Derived.Test.Qxb6618576aDoorRead
import Derived.LaidEql
namespace Go.Proofs.Qxb6618576aDoor
open Go.RowKit

theorem grow_512 (b k : Nat) (bs : List Value) (hl : bs.length = k) (w : World) (h : Lib.IsBuffer 38 5 b b bs w) (h1 : ∀ v ∈ bs, v.oneCell' = true) (hlim : k ≤ 1048576) :
    Calls Tryd.prog 14 #[.pointer (some ⟨b, 0, none⟩), .int .i64 512] w fun e w' => e = .returned (.int .i64 (k : Int)) ∧ ∃ (lr : Int) (g cap : Nat) (cur : List Value),
      w'.heap[b]? = some (.cells #[.slice (some ⟨g, 0, none⟩) (k + 512) cap, .int .i64 0, .int .i8 lr] 38 (0, 0)) ∧ b < g ∧ w'.heap[g]? = some (.cells cur.toArray 5 (0, 0)) ∧ k + 512 ≤ cap ∧ cap ≤ maxLen ∧ cur.length = cap ∧ cur.take k = bs ∧ Below b w w' := by
  subst hl
  have h' := grow_any b b 512 bs w h (by omega) (Nat.le_of_lt h.lt) h1 (by omega)
  refine h'.mono ?_
  rintro e w' ⟨rfl, xs, hx, hI, hb, _⟩
  obtain ⟨_, lr, g, cap, cur, hbk, hBg, hg, hnc, hcm, hcs, htk, hgb⟩ := opened hI (by intro e; have := congrArg List.length e; simp [hx] at this)
  rw [List.length_append, hx] at hbk hnc htk
  refine ⟨rfl, lr, g, cap, cur.toList, hbk, by omega, by simpa using hg, hnc, hcm, by simpa using hcs, ?_, hb⟩
  have := congrArg (List.take bs.length) htk
  rw [List.take_take, List.take_left] at this
  simpa using this

theorem comp53 : (Tryd.prog.info? 53).map (·.comparable) = some true := by kernel_rfl
theorem some73 : (Tryd.prog.info? 73).isSome = true := by kernel_rfl
theorem eof_eof (a : Addr) (w : World) : (binOp .eql 25 (.iface 53 (.pointer (some a))) (.iface 53 (.pointer (some a)))).run Tryd.prog w = .ok (.bool true) w := by
  obtain ⟨i, hi, hc⟩ := Option.map_eq_some_iff.1 comp53
  obtain ⟨j, hj⟩ := Option.isSome_iff_exists.1 some73
  exact run_eql_iface_ptr_same w a Tryd.underlying25 Tryd.underlying53 hi hc hj
theorem nil_eof (a : Addr) (w : World) : (binOp .eql 25 .nilIface (.iface 53 (.pointer (some a)))).run Tryd.prog w = .ok (.bool false) w :=
  run_eql_iface_nil_left w 53 _ Tryd.underlying25
/-- The buffer's row behind a read: what it held, and what came. -/
theorem splice_take (cur ms : List Value) (k : Nat) (h : k + ms.length ≤ cur.length) : (splice cur k ms).take (k + ms.length) = cur.take k ++ ms := by
  unfold splice
  rw [← List.append_assoc, List.take_append_of_le_length (by rw [List.length_append, List.length_take]; omega)]
  exact List.take_of_length_le (by rw [List.length_append, List.length_take]; omega)
theorem isBuf (b g k cap : Nat) (lr : Int) (cur : List Value) (w : World) (hbk : w.heap[b]? = some (.cells #[.slice (some ⟨g, 0, none⟩) k cap, .int .i64 0, .int .i8 lr] 38 (0, 0)))
    (hg : w.heap[g]? = some (.cells cur.toArray 5 (0, 0))) (hbg : b < g) (hk : k ≤ cap) (hcm : cap ≤ maxLen) (hcl : cur.length = cap) : Lib.IsBuffer 38 5 b b (cur.take k) w :=
  Lib.isBuffer_mk (T := 38) (lr := lr) (cur := cur.toArray) (Nat.le_refl b) hbk (by omega) hg hk hcm (by simpa using hcl) (by omega)
theorem nil_ahead (a : Addr) (w : World) : (nilAhead 181 31 (.pointer (some a)) "Read").run Tryd.prog w = .ok (some false) w := by kernel_rfl
theorem method_read (a : Addr) (w : World) : (method 181 31 (.pointer (some a)) "Read").run Tryd.prog w = .ok (36, .pointer (some a)) w := by kernel_rfl

set_option maxHeartbeats 2000000 in
theorem readFrom_any (R b n cp : Nat) (ao : Option Addr) (pr : Int) (cs : List Value) (ep : Addr) (w : World)
    (hI : Lib.IsBuffer 38 5 b b [] w) (hR : w.heap[R]? = some (.cells #[.slice ao n cp, .int .i64 0, .int .i64 pr] 44 (0, 0))) (hRb : R < b)
    (hcs : cs.length = n) (hncp : n ≤ cp) (hcp : cp ≤ 140737488351232) (hn : n ≤ 1048576) (h1 : ∀ v ∈ cs, v.oneCell' = true)
    (hsrc : 0 < n → ∃ d off, ao = some ⟨d, off, none⟩ ∧ d < R ∧ ∀ j v, cs[j]? = some v → w.cell? ⟨d, off + j, none⟩ = some v)
    (hev : w.cell? ⟨1, 0, none⟩ = some (.iface 53 (.pointer (some ep)))) (h1R : 1 < R) :
    Calls Tryd.prog 12 #[.pointer (some ⟨b, 0, none⟩), .iface 31 (.pointer (some ⟨R, 0, none⟩))] w fun e w' => e = .returned (.tuple #[.int .i64 (n : Int), .nilIface]) ∧ Lib.IsBuffer 38 5 b b cs w' ∧ Below R w w' := by
  have HI0 : Hid (Lib.IsBuffer 38 5 b b [] w) := hI
  have HR0 : Hid (w.heap[R]? = some (.cells #[.slice ao n cp, .int .i64 0, .int .i64 pr] 44 (0, 0))) := hR
  obtain ⟨_, v0, lr0, hb0, _, _⟩ := hI
  have c2 : w.cell? ⟨b, 2, none⟩ = some (.int .i8 lr0) := by rw [Lib.cell_of_heap hb0]; rfl
  have f2 := Lib.frozen_of_heap hb0 2
  clear hb0 hR
  go_enter Tryd.func12, Tryd.ntmps12
  go_wp2
  go_loopw [4] (fun t wr => ∃ (k : Nat) (q : Int), k ≤ n ∧ t = .int .i64 (k : Int) ∧ Lib.IsBuffer 38 5 b b (cs.take k) wr ∧ wr.heap[R]? = some (.cells #[.slice ao n cp, .int .i64 (k : Int), .int .i64 q] 44 (0, 0)) ∧ Below R w wr) (fun t _ => n - (intOf t).toNat)
  case atStart => exact ⟨0, pr, Nat.zero_le _, rfl, by rw [List.take_zero]; exact HI0.out.setLast 0, (Below.heap_setCell _ _ _ _ (by show R ≠ b; omega)).trans HR0.out, (Below.refl R w).setCell (p := ⟨b, 2, none⟩) (by show R ≤ b; omega) _⟩
  case round =>
    obtain ⟨k, q, hk, rfl, hIr, hRr, hBr⟩ := hrel
    have hlen : (cs.take k).length = k := by rw [List.length_take]; omega
    have ho1 : ∀ v ∈ cs.take k, v.oneCell' = true := fun v hv => h1 v (List.mem_of_mem_take hv)
    have hG := grow_512 b k (cs.take k) hlen wr hIr ho1 (by omega)
    have HRr : Hid (wr.heap[R]? = some (.cells #[.slice ao n cp, .int .i64 (k : Int), .int .i64 q] 44 (0, 0))) := hRr
    have hk1 : (0 : Int) ≤ (k : Int) := by omega
    have hk2 : (k : Int) ≤ 1048576 := by omega
    have HS : Hid (0 < n → ∃ d off, ao = some ⟨d, off, none⟩ ∧ d < R ∧ ∀ j v, cs[j]? = some v → w.cell? ⟨d, off + j, none⟩ = some v) := hsrc
    have H1 : Hid (∀ v ∈ cs, v.oneCell' = true) := h1
    have HC : Hid (cs.length = n) := hcs
    clear hIr hRr hlen ho1 hsrc h1 hcs c2 f2
    go_wp2_with fail
    refine hG.mono ?_
    clear hG
    rintro e w1 ⟨rfl, lr, g, cap, cur, hb1, hbg, hg1, hkc, hcm, hcl, htk, hB1⟩
    have c0 : w1.cell? ⟨b, 0, none⟩ = some (.slice (some ⟨g, 0, none⟩) (k + 512) cap) := by rw [Lib.cell_of_heap hb1]; rfl
    have f0 := Lib.frozen_of_heap hb1 0
    have hcm' := hcm
    unfold maxLen at hcm'
    have HB : Hid (w1.heap[b]? = some (.cells #[.slice (some ⟨g, 0, none⟩) (k + 512) cap, .int .i64 0, .int .i8 lr] 38 (0, 0))) := hb1
    have HG1 : Hid (w1.heap[g]? = some (.cells cur.toArray 5 (0, 0))) := hg1
    have HCL : Hid (cur.length = cap) := hcl
    have HTK : Hid (cur.take k = cs.take k) := htk
    clear hb1 hg1 hcl htk
    go_wp2
    have k1 : Below R w (w1.setCell ⟨b, 0, none⟩ (.slice (some ⟨g, 0, none⟩) k cap)) := (hBr.trans (hB1.mono (by omega))).setCell (p := ⟨b, 0, none⟩) (by show R ≤ b; omega) _
    have k2 : (w1.setCell ⟨b, 0, none⟩ (.slice (some ⟨g, 0, none⟩) k cap)).heap[b]? = some (.cells #[.slice (some ⟨g, 0, none⟩) k cap, .int .i64 0, .int .i8 lr] 38 (0, 0)) := Lib.heap_setCell_same (i := 0) HB.out _
    have k3 : (w1.setCell ⟨b, 0, none⟩ (.slice (some ⟨g, 0, none⟩) k cap)).heap[g]? = some (.cells cur.toArray 5 (0, 0)) := (Below.heap_setCell _ _ _ _ (by show g ≠ b; omega)).trans HG1.out
    have k4 : (w1.setCell ⟨b, 0, none⟩ (.slice (some ⟨g, 0, none⟩) k cap)).heap[R]? = some (.cells #[.slice ao n cp, .int .i64 (k : Int), .int .i64 q] 44 (0, 0)) := (Below.heap_setCell _ _ _ _ (by show R ≠ b; omega)).trans ((hB1.block R hRb).trans HRr.out)
    generalize w1.setCell ⟨b, 0, none⟩ (.slice (some ⟨g, 0, none⟩) k cap) = W2 at *
    have HB2 : Hid (Below R w W2) := k1
    have HBK : Hid (W2.heap[b]? = some (.cells #[.slice (some ⟨g, 0, none⟩) k cap, .int .i64 0, .int .i8 lr] 38 (0, 0))) := k2
    have HG2 : Hid (W2.heap[g]? = some (.cells cur.toArray 5 (0, 0))) := k3
    have HR2 : Hid (W2.heap[R]? = some (.cells #[.slice ao n cp, .int .i64 (k : Int), .int .i64 q] 44 (0, 0))) := k4
    have e0 : W2.cell? ⟨b, 0, none⟩ = some (.slice (some ⟨g, 0, none⟩) k cap) := by rw [Lib.cell_of_heap k2]; rfl
    clear c0 f0 k1 k2 k3 k4 HB HG1 hB1 hBr HRr
    have i1 : (k : Int) ≤ (cap : Int) := by omega
    have i2 : (0 : Int) ≤ (cap : Int) := by omega
    have i3 : (cap : Int) ≤ 9223372036854775807 := by omega
    have i4 : ¬ cap = k := by omega
    have hna := nil_ahead ⟨R, 0, none⟩
    have hme := method_read ⟨R, 0, none⟩
    have e1 : W2.cell? ⟨1, 0, none⟩ = some (.iface 53 (.pointer (some ep))) := (HB2.out.cell (p := ⟨1, 0, none⟩) h1R).trans hev
    by_cases hkn : k = n
    · subst hkn
      have hE := fun q' => read_end R k cp ao q (.slice (some ⟨g, k, none⟩) (cap - k) (cap - k)) _ (W2.drewN q') HR2.out e1
      go_region_held3 (fun w' => w'.cell? ⟨b, 0, none⟩ = some (.slice (some ⟨g, 0, none⟩) k cap)) (exact e0)
        ((go_at_call 36; refine (hE 1).mono ?_; rintro e w3 ⟨rfl, q3, rfl⟩))
      have f0 := Lib.frozen_of_heap HBK.out 0
      have heq := eof_eof ep
      have HE : Hid (∀ q', Lib.IsBuffer 38 5 b b cs ((W2.drewN q').setCell ⟨b, 0, none⟩ (.slice (some ⟨g, 0, none⟩) k cap)) ∧ Below R w ((W2.drewN q').setCell ⟨b, 0, none⟩ (.slice (some ⟨g, 0, none⟩) k cap))) := by
        intro q'
        have hb2 := Below.trans HB2.out ((Below.refl R W2).setCell (p := ⟨b, 0, none⟩) (by show R ≤ b; omega) (.slice (some ⟨g, 0, none⟩) k cap))
        refine ⟨?_, ⟨hb2.os, hb2.tape, hb2.output, hb2.size, hb2.block⟩⟩
        have h := isBuf b g k cap lr cur ((W2.drewN q').setCell ⟨b, 0, none⟩ (.slice (some ⟨g, 0, none⟩) k cap)) (Lib.heap_setCell_same (w := W2.drewN q') (i := 0) HBK.out _) ((Below.heap_setCell _ _ _ _ (by show g ≠ b; omega)).trans HG2.out) hbg (by omega) hcm HCL.out
        rw [HTK.out, List.take_of_length_le (by rw [HC.out]; exact Nat.le_refl _)] at h
        exact h
      go_wp2
      go_ret2
      exact ⟨rfl, HE.out _⟩
    · have hkl : k < n := by omega
      obtain ⟨d, off, rfl, hdR, hs⟩ := HS.out (by omega)
      have HCS : Hid (∀ j v, cs[j]? = some v → W2.cell? ⟨d, off + j, none⟩ = some v) := fun j v hj => (HB2.out.cell (p := ⟨d, off + j, none⟩) hdR).trans (hs j v hj)
      clear hs HS
      have hml : ((cs.drop k).take (Nat.min (n - k) (cap - k))).length = Nat.min (n - k) (cap - k) := by
        rw [List.length_take, List.length_drop, HC.out]; exact Nat.min_eq_left (Nat.min_le_left _ _)
      have HCU : Hid (cs.take k ++ (cs.drop k).take (Nat.min (n - k) (cap - k)) = cs.take (k + ((cs.drop k).take (Nat.min (n - k) (cap - k))).length)) := by
        show _ = _
        rw [hml]; exact List.take_add.symm
      have HMS : Hid (∀ j v, ((cs.drop k).take (Nat.min (n - k) (cap - k)))[j]? = some v → W2.cell? ⟨d, off + k + j, none⟩ = some v) := by
        intro j v hj
        rw [Nat.add_assoc]
        refine HCS.out (k + j) v ?_
        rw [List.getElem?_take] at hj
        split at hj
        · rw [List.getElem?_drop] at hj; exact hj
        · cases hj
      have HO : Hid (∀ v ∈ (cs.drop k).take (Nat.min (n - k) (cap - k)), v.oneCell' = true) := fun v hv => H1.out v (List.mem_of_mem_drop (List.mem_of_mem_take hv))
      have hmin : 1 ≤ Nat.min (n - k) (cap - k) ∧ Nat.min (n - k) (cap - k) ≤ n - k ∧ Nat.min (n - k) (cap - k) ≤ cap - k := ⟨Nat.le_min.2 ⟨by omega, by omega⟩, Nat.min_le_left _ _, Nat.min_le_right _ _⟩
      generalize hms : (cs.drop k).take (Nat.min (n - k) (cap - k)) = ms at *
      clear hms
      rw [← hml] at hmin
      obtain ⟨hm1, hm2, hm3⟩ := hmin
      have hE := fun q' => read_core R n cp k d off g k (cap - k) (cap - k) q ms cur (W2.drewN q') HR2.out hkl hncp hcp hml HO.out HMS.out HG2.out (by omega) hdR (by rw [HCL.out]; omega)
      clear hml
      go_region_held3 (fun w' => w'.cell? ⟨b, 0, none⟩ = some (.slice (some ⟨g, 0, none⟩) k cap)) (first | exact e0 | exact (by rw [Lib.cell_of_heap ((hj3 b hbg (by omega)).trans HBK.out)]; rfl))
        ((go_at_call 36; refine (hE 1).mono ?_; rintro e w3 ⟨rfl, hg3, hR3, hj3, hB3⟩))
      have b3 : w3.heap[b]? = some (.cells #[.slice (some ⟨g, 0, none⟩) k cap, .int .i64 0, .int .i8 lr] 38 (0, 0)) := (hj3 b hbg (by omega)).trans HBK.out
      have c3 : w3.cell? ⟨b, 0, none⟩ = some (.slice (some ⟨g, 0, none⟩) k cap) := by rw [Lib.cell_of_heap b3]; rfl
      have f3 := Lib.frozen_of_heap b3 0
      have e3 : w3.cell? ⟨1, 0, none⟩ = some (.iface 53 (.pointer (some ep))) := (hB3.cell (p := ⟨1, 0, none⟩) h1R).trans e1
      have hne := nil_eof ep
      have HE : Hid (Lib.IsBuffer 38 5 b b (cs.take (k + ms.length)) (w3.setCell ⟨b, 0, none⟩ (.slice (some ⟨g, 0, none⟩) (k + ms.length) cap)) ∧
          (w3.setCell ⟨b, 0, none⟩ (.slice (some ⟨g, 0, none⟩) (k + ms.length) cap)).heap[R]? = some (.cells #[.slice (some ⟨d, off, none⟩) n cp, .int .i64 ((k + ms.length : Nat) : Int), .int .i64 (-1)] 44 (0, 0)) ∧
          Below R w (w3.setCell ⟨b, 0, none⟩ (.slice (some ⟨g, 0, none⟩) (k + ms.length) cap))) := by
        refine ⟨?_, (Below.heap_setCell _ _ _ _ (by show R ≠ b; omega)).trans hR3, ?_⟩
        · have hl : (splice cur k ms).length = cap := by rw [length_splice _ _ _ (by rw [HCL.out]; omega)]; exact HCL.out
          have h := isBuf b g (k + ms.length) cap lr (splice cur k ms) (w3.setCell ⟨b, 0, none⟩ (.slice (some ⟨g, 0, none⟩) (k + ms.length) cap)) (Lib.heap_setCell_same (i := 0) b3 _) ((Below.heap_setCell _ _ _ _ (by show g ≠ b; omega)).trans hg3) hbg (by omega) hcm hl
          rw [splice_take cur ms k (by rw [HCL.out]; omega), HTK.out, HCU.out] at h
          exact h
        · have hq : Below R W2 w3 := ⟨hB3.os, hB3.tape, hB3.output, hB3.size, hB3.block⟩
          exact (HB2.out.trans hq).setCell (p := ⟨b, 0, none⟩) (by show R ≤ b; omega) _
      clear b3 hg3 hR3 hj3 hB3 e0 e1 HBK HG2 HR2 HB2 hE
      go_wp2
      go_roundw
      case rel => exact ⟨k + ms.length, -1, by omega, by go_num, HE.out.1, HE.out.2.1, HE.out.2.2⟩
      case measure => simp [intOf]; omega
end Go.Proofs.Qxb6618576aDoor
