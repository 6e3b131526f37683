/- The walk of the law FnReadBodyOfTwoPartsJoinsToTheWhole. -/
import Derived.Test.Qxb6618576aDoorLaw3
namespace Go.Proofs.Qxb6618576aDoor
open Go.RowKit

/-- zzBytes_FnReadBodyOfTwoPartsJoinsToTheWhole: is the length within the bound? -/
theorem bound4 (ao : Option Addr) (len cap : Nat) (a b c : Int) (w : World) (hl : len ≤ 140737488351232) :
    Calls Tryd.prog 8 #[.slice ao len cap, .int .i64 a, .int .i64 b, .int .i64 c] w fun e w' => e = .returned (.bool (decide (len ≤ 1048576))) ∧ w = w' := by
  have h0 : (len : Int) ≤ 140737488351232 := by omega
  by_cases h : (1048576 : Int) < (len : Int)
  · have hd : decide (len ≤ 1048576) = false := by simp; omega
    rw [hd]
    go_enter Tryd.func8, Tryd.ntmps8
    go_wp2
    go_ret
    exact ⟨rfl, rfl⟩
  · have hd : decide (len ≤ 1048576) = true := by simp; omega
    rw [hd]
    go_enter Tryd.func8, Tryd.ntmps8
    go_wp2
    go_ret
    exact ⟨rfl, rfl⟩

/-- The part before i, the part from i. -/
theorem Bytes.head {w : World} {ao : Option Addr} {zs : List Int} (h : Bytes w ao zs) (i : Nat) (hi : i ≤ zs.length) : Bytes w ao (zs.take i) := by
  intro h0
  rw [List.length_take] at h0
  obtain ⟨d, off, rfl, hc⟩ := h (by omega)
  refine ⟨d, off, rfl, fun j hj => ?_⟩
  rw [List.length_take] at hj
  rw [hc j (by omega), List.getD_eq_getElem?_getD, List.getD_eq_getElem?_getD, List.getElem?_take, if_pos (by omega)]
theorem Bytes.rest {w : World} {D off : Nat} {zs : List Int} (h : Bytes w (some ⟨D, off, none⟩) zs) (i : Nat) : Bytes w (some ⟨D, off + i, none⟩) (zs.drop i) := by
  intro h0
  rw [List.length_drop] at h0
  obtain ⟨d, o, ha, hc⟩ := h (by omega)
  cases ha
  refine ⟨D, off + i, rfl, fun j hj => ?_⟩
  rw [List.length_drop] at hj
  rw [Nat.add_assoc, hc (i + j) (by omega), List.getD_eq_getElem?_getD, List.getD_eq_getElem?_getD, List.getElem?_drop]
theorem Bytes.none_of {w : World} {ao : Option Addr} {zs : List Int} (h : zs.length = 0) : Bytes w ao zs := fun h0 => by omega
theorem Bytes.draws {w : World} {ao : Option Addr} {zs : List Int} (h : Bytes w ao zs) (q : Nat) : Bytes (w.drewN q) ao zs := h
theorem getD_take (zs : List Int) (i k : Nat) (h : k < i) : (zs.take i).getD k 0 = zs.getD k 0 := by
  rw [List.getD_eq_getElem?_getD, List.getD_eq_getElem?_getD, List.getElem?_take, if_pos h]
theorem getD_drop (zs : List Int) (i k : Nat) : (zs.drop i).getD k 0 = zs.getD (i + k) 0 := by
  rw [List.getD_eq_getElem?_getD, List.getD_eq_getElem?_getD, List.getElem?_drop]

set_option maxHeartbeats 4000000 in
/-- The law at a slice that is not nil; the cut i, and m bytes behind it. -/
theorem law4_some (a : Addr) (i m cap : Nat) (zs : List Int) (l1 r1 : Int) (ep : Addr) (w : World) (hl : zs.length = i + m) (hm : 0 < m) (hn : i + m ≤ 1048576) (hb : Bytes w (some a) zs)
    (hr1 : 0 ≤ r1) (hr1' : r1 ≤ 65536)
    (hev : w.cell? ⟨1, 0, none⟩ = some (.iface 53 (.pointer (some ep)))) (h1R : 1 < w.heap.size) :
    Calls Tryd.prog 4 #[.slice (some a) (i + m) cap, .int .i64 (i : Int), .int .i64 l1, .int .i64 r1] w fun e w' => e = .returned (.bool true) ∧ Below w.heap.size w w' := by
  obtain ⟨i0, hi, hz0, hz1, hz2⟩ := info_parts info5
  have hb3 := bound4 (some a) (i + m) cap i l1 r1 w (by omega)
  have hd : decide (i + m ≤ 1048576) = true := by simp [hn]
  rw [hd] at hb3
  have hni : (i : Int) + (m : Int) ≤ 1048576 := by omega
  have hi0 : (0 : Int) ≤ (i : Int) := by omega
  have hm0 : (0 : Int) ≤ (m : Int) := by omega
  have him : (i : Int) ≤ (i : Int) + (m : Int) := by omega
  have hby2 : i0.bytes * (i + m) ≤ 281474976710656 := by rw [hz2]; omega
  have hml : i + m ≤ maxLen := by unfold maxLen; omega
  have HSRC : Hid (0 < (zs.map (Value.int .u8)).length → ∀ j v, (zs.map (Value.int .u8))[j]? = some v → w.cell? (a.add j) = some v) := by
    intro h0 j v hj
    obtain ⟨hj2, rfl⟩ := cells_at hj
    obtain ⟨d, off, ha, hc⟩ := hb (by omega)
    cases ha
    rw [Lib.addr_add]; exact hc j hj2
  have hab : 0 < zs.length → a.block < w.heap.size := fun h0 => by
    obtain ⟨d, off, ha, hc⟩ := hb h0
    cases ha
    exact block_lt_of_cell (hc 0 h0)
  have HL : Hid (zs.length = i + m) := hl
  have HEV : Hid (w.cell? ⟨1, 0, none⟩ = some (.iface 53 (.pointer (some ep)))) := hev
  clear hd hl hb hev hz2
  go_enter Tryd.func4, Tryd.ntmps4
  go_wp2_with (first | (go_at_call 8; refine hb3.mono ?_; rintro e w' ⟨rfl, rfl⟩) | (at_make; refine wpList_make_full _ rfl (.tmp 44) (.tmp 44) 22 rfl w.heap.size 5 i0 (.int .u8 0) 1 Tryd.underlying22 hi hz0 hz1 .i64 .i64 _ _ (i + m) rfl rfl (by simp) (by simp) hby2 hml (Nat.le_refl _) ?_; intro wm hom hgm; refine Hid.out ?_))
  obtain ⟨cur, hgD, hcl⟩ := made_row hom
  have hBm := below_made hgm
  obtain ⟨ms, hms⟩ : ∃ ms, ms = zs.map (Value.int .u8) := ⟨_, rfl⟩
  have k1 : ms.length = Nat.min (i + m) (i + m) := by rw [hms, List.length_map, HL.out]; exact (Nat.min_self _).symm
  have k2 : 0 < ms.length → ∀ j v, ms[j]? = some v → wm.cell? (a.add j) = some v := by
    intro h0 j v hj
    rw [hms] at hj h0
    exact (hBm.cell (p := a.add j) (by rw [addr_add_block]; exact hab (by simpa using h0))).trans (HSRC.out h0 j v hj)
  have k3 : 0 + ms.length ≤ cur.length := by rw [k1, hcl, Nat.zero_add]; exact Nat.min_le_left _ _
  have k4 : ∀ v ∈ ms, v.oneCell' = true := by rw [hms]; exact cellsInts_one zs
  have HMS : Hid (ms = zs.map (Value.int .u8)) := hms
  have HCL : Hid (cur.length = i + m) := hcl
  have HK1 : Hid (ms.length = Nat.min (i + m) (i + m)) := k1
  have HK2 := Lib.hid k2
  have HK4 := Lib.hid k4
  have HGD := Lib.hid hgD
  have HBM := Lib.hid hBm
  clear hom hgm hms k1 k2 k4 hgD hBm hcl HSRC
  refine Lib.hid ?_
  go_wp2_with (refine wpList_copy_splice rfl (.tmp 46) (.tmp 47) 22 22 rfl 5 Tryd.underlying22 size5 (some ⟨w.heap.size, 0, none⟩) (some a) (i + m) (i + m) (i + m) cap rfl rfl w.heap.size 0 cur 5 HGD.out ms HK1.out (fun h0 => ⟨rfl, a, rfl, HK2.out h0⟩) k3 HK4.out w.heap.size w HBM.out (Nat.le_refl _) ?_; intro w5 hg5 hB5; refine Hid.out ?_)
  have hg6 := hg5.out
  rw [HMS.out] at hg6
  have hW := hB5
  have hby := copied (zs := zs) (by rw [HCL.out, HL.out]) hg6
  have hlt : w.heap.size < w5.heap.size := Lib.lt_of_heap hg6
  have hev5 : w5.cell? ⟨1, 0, none⟩ = some (.iface 53 (.pointer (some ep))) := (hW.cell (p := ⟨1, 0, none⟩) h1R).trans HEV.out
  have h15 : 1 < w5.heap.size := Nat.lt_of_lt_of_le h1R hW.size
  have HW := Lib.hid hW
  have HBY := Lib.hid hby
  have HEV5 := Lib.hid hev5
  clear hg5 hg6 hB5 hW hby hev5 HGD HBM HK1 HK2 HK4 HMS HCL HEV k3
  refine Lib.hid ?_
  have hd1 := (HBY.out w5 (Below.refl _ _)).holds (n := i + m) (cp := i + m) (H := w5.heap.size) HL.out (Nat.le_refl _) (by omega) hn (fun b hb => by cases hb; exact hlt)
  have hz1 := zzReadBody_any (i + m) (i + m) (some ⟨w.heap.size, 0, none⟩) l1 r1 _ ep w5 hd1 hr1 hr1' HEV5.out h15
  clear hd1
  go_wp2_with fail
  refine hz1.mono ?_
  clear hz1
  rintro e w6 ⟨v6, rfl, hown6, hB6⟩
  obtain ⟨a6, c6, rfl, hby6⟩ := own_bytes hown6
  have hd2 := ((HBY.out w6 hB6).head i (by rw [HL.out]; omega)).holds (n := i) (cp := i + m) (H := w6.heap.size) (by rw [List.length_take, HL.out]; omega) (by omega) (by omega) (by omega) (fun b hb => by cases hb; exact Nat.lt_of_lt_of_le hlt hB6.size)
  have hev6 := (hB6.cell (p := ⟨1, 0, none⟩) h15).trans HEV5.out
  have h16 := Nat.lt_of_lt_of_le h15 hB6.size
  have hz2 := zzReadBody_any i (i + m) (some ⟨w.heap.size, 0, none⟩) l1 r1 _ ep w6 hd2 hr1 hr1' hev6 h16
  have HY6 := Lib.hid hby6
  have HB6 := Lib.hid hB6
  have HEV6 := Lib.hid hev6
  clear hown6 hby6 hB6 hev6 hd2
  go_wp2_with fail
  refine hz2.mono ?_
  clear hz2
  rintro e w7 ⟨v7, rfl, hown7, hB7⟩
  obtain ⟨a7, c7, rfl, hby7⟩ := own_bytes hown7
  have HY7 := Lib.hid hby7
  have HB7 := Lib.hid hB7
  have HEV7 := Lib.hid ((hB7.cell (p := ⟨1, 0, none⟩) h16).trans HEV6.out)
  have h17 := Nat.lt_of_lt_of_le h16 hB7.size
  have HB57 := Lib.hid (HB6.out.trans (hB7.mono HB6.out.size))
  clear hown7 hby7 hB7
  have hmc : ¬ (i + m = i) := by omega
  have hmc2 : ¬ (m = 0) := by omega
  have hd3 := ((HBY.out w7 HB57.out).rest i).holds (n := m) (cp := m) (H := w7.heap.size) (by rw [List.length_drop, HL.out]; omega) (Nat.le_refl _) (by omega) (by omega) (fun b hb => by cases hb; exact Nat.lt_of_lt_of_le hlt HB57.out.size)
  rw [Nat.zero_add] at hd3
  have hz3 := zzReadBody_any m m (some ⟨w.heap.size, i, none⟩) l1 r1 _ ep w7 hd3 hr1 hr1' HEV7.out h17
  clear hd3
  go_wp2_with fail
  refine hz3.mono ?_
  clear hz3
  rintro e w8 ⟨v8, rfl, hown8, hB8⟩
  obtain ⟨a8, c8, rfl, hby8⟩ := own_bytes hown8
  have HB58 := Lib.hid (HB57.out.trans (hB8.mono HB57.out.size))
  have HY8 := Lib.hid (hby8 w8 (Below.refl _ _))
  have HZ7 := Lib.hid (HY7.out w8 hB8)
  have HZ6 := Lib.hid (HY6.out w8 (HB7.out.trans (hB8.mono HB7.out.size)))
  have HZD := Lib.hid (HBY.out w8 HB58.out)
  have HF : Hid (Below w.heap.size w w8) := HW.out.trans (HB58.out.mono HW.out.size)
  clear hown8 hby8 hB8 HY7 HY6 HBY HB58 HB57 HB7 HB6 HEV5 HEV6 HEV7 HW h15 h16 h17 hlt hb3 hi hz0 hz1 hby2 hml hab
  go_wp2_with fail
  go_loopw [16] (fun t wr => ∃ k : Nat, k ≤ i ∧ t = .int .i64 (k : Int) ∧ ∃ q, wr = w8.drewN q) (fun t _ => i - (intOf t).toNat)
  case atStart => exact ⟨0, Nat.zero_le _, rfl, 0, rfl⟩
  case round =>
    obtain ⟨k, hk, rfl, q, rfl⟩ := hrel
    by_cases hki : k < i
    · obtain ⟨d7, o7, rfl, hc7⟩ := HZ7.out (by rw [List.length_take, HL.out]; omega)
      obtain ⟨d6, o6, rfl, hc6⟩ := HZ6.out (by rw [HL.out]; omega)
      have g7 := hc7 k (by rw [List.length_take, HL.out]; omega)
      have g6 := hc6 k (by rw [HL.out]; omega)
      rw [getD_take zs i k hki] at g7
      generalize zs.getD k 0 = z at *
      clear hc6 hc7
      have j1 : (0 : Int) ≤ (k : Int) := by omega
      have j2 : (k : Int) < (i : Int) := by omega
      have j3 : (k : Int) < (i : Int) + (m : Int) := by omega
      go_wp2_with fail
      go_quiet (fail)
      go_wp2_with fail
      go_roundw
      case rel => exact ⟨k + 1, by omega, by go_num, _, rfl⟩
      case measure => simp [intOf]; omega
    · go_wp2_with fail
      go_loopw [17] (fun t wr => ∃ k : Nat, k ≤ m ∧ t = .int .i64 (k : Int) ∧ ∃ q, wr = w8.drewN q) (fun t _ => m - (intOf t).toNat)
      case atStart => exact ⟨0, Nat.zero_le _, rfl, q, rfl⟩
      case round =>
        obtain ⟨k2, hk2, rfl, q2, rfl⟩ := hrel
        by_cases hkm : k2 < m
        · obtain ⟨d8, o8, rfl, hc8⟩ := HY8.out (by rw [List.length_drop, HL.out]; omega)
          obtain ⟨d6, o6, rfl, hc6⟩ := HZ6.out (by rw [HL.out]; omega)
          have g8 := hc8 k2 (by rw [List.length_drop, HL.out]; omega)
          have g6 := hc6 (i + k2) (by rw [HL.out]; omega)
          rw [getD_drop zs i k2] at g8
          generalize zs.getD (i + k2) 0 = z at *
          clear hc6 hc8
          have j1 : (0 : Int) ≤ (k2 : Int) := by omega
          have j2 : (k2 : Int) < (m : Int) := by omega
          have j3 : (i : Int) + (k2 : Int) < (i : Int) + (m : Int) := by omega
          have j4 : (0 : Int) ≤ (i : Int) + (k2 : Int) := by omega
          go_wp2_with fail
          go_quiet (fail)
          go_wp2_with fail
          go_roundw
          case rel => exact ⟨k2 + 1, by omega, by go_num, _, rfl⟩
          case measure => simp [intOf]; omega
        · have hq := bytesEq_any a6 (some ⟨w.heap.size, 0, none⟩) (i + m) c6 (i + m) zs (w8.drewN q2) HL.out hn (HZ6.out.draws q2) (HZD.out.draws q2)
          go_wp2_with fail
          refine hq.mono ?_
          clear hq
          rintro e w9 ⟨rfl, q9, rfl⟩
          go_wp2
          go_ret
          have hf := HF.out
          exact ⟨rfl, ⟨hf.os, hf.tape, hf.output, hf.size, hf.block⟩⟩

set_option maxHeartbeats 4000000 in
/-- The law at a slice that is not nil; the cut at its end. -/
theorem law4_end (a : Addr) (i cap : Nat) (zs : List Int) (l1 r1 : Int) (ep : Addr) (w : World) (hl : zs.length = i) (hn : i ≤ 1048576) (hb : Bytes w (some a) zs)
    (hr1 : 0 ≤ r1) (hr1' : r1 ≤ 65536)
    (hev : w.cell? ⟨1, 0, none⟩ = some (.iface 53 (.pointer (some ep)))) (h1R : 1 < w.heap.size) :
    Calls Tryd.prog 4 #[.slice (some a) i cap, .int .i64 (i : Int), .int .i64 l1, .int .i64 r1] w fun e w' => e = .returned (.bool true) ∧ Below w.heap.size w w' := by
  obtain ⟨i0, hi, hz0, hz1, hz2⟩ := info_parts info5
  have hb3 := bound4 (some a) i cap i l1 r1 w (by omega)
  have hd : decide (i ≤ 1048576) = true := by simp [hn]
  rw [hd] at hb3
  have hni : (i : Int) ≤ 1048576 := by omega
  have hi0 : (0 : Int) ≤ (i : Int) := by omega
  have hby2 : i0.bytes * i ≤ 281474976710656 := by rw [hz2]; omega
  have hml : i ≤ maxLen := by unfold maxLen; omega
  have HSRC : Hid (0 < (zs.map (Value.int .u8)).length → ∀ j v, (zs.map (Value.int .u8))[j]? = some v → w.cell? (a.add j) = some v) := by
    intro h0 j v hj
    obtain ⟨hj2, rfl⟩ := cells_at hj
    obtain ⟨d, off, ha, hc⟩ := hb (by omega)
    cases ha
    rw [Lib.addr_add]; exact hc j hj2
  have hab : 0 < zs.length → a.block < w.heap.size := fun h0 => by
    obtain ⟨d, off, ha, hc⟩ := hb h0
    cases ha
    exact block_lt_of_cell (hc 0 h0)
  have HL : Hid (zs.length = i) := hl
  have HEV : Hid (w.cell? ⟨1, 0, none⟩ = some (.iface 53 (.pointer (some ep)))) := hev
  clear hd hl hb hev hz2
  go_enter Tryd.func4, Tryd.ntmps4
  go_wp2_with (first | (go_at_call 8; refine hb3.mono ?_; rintro e w' ⟨rfl, rfl⟩) | (at_make; refine wpList_make_full _ rfl (.tmp 44) (.tmp 44) 22 rfl w.heap.size 5 i0 (.int .u8 0) 1 Tryd.underlying22 hi hz0 hz1 .i64 .i64 _ _ i rfl rfl (by simp) (by simp) hby2 hml (Nat.le_refl _) ?_; intro wm hom hgm; refine Hid.out ?_))
  obtain ⟨cur, hgD, hcl⟩ := made_row hom
  have hBm := below_made hgm
  obtain ⟨ms, hms⟩ : ∃ ms, ms = zs.map (Value.int .u8) := ⟨_, rfl⟩
  have k1 : ms.length = Nat.min i i := by rw [hms, List.length_map, HL.out]; exact (Nat.min_self _).symm
  have k2 : 0 < ms.length → ∀ j v, ms[j]? = some v → wm.cell? (a.add j) = some v := by
    intro h0 j v hj
    rw [hms] at hj h0
    exact (hBm.cell (p := a.add j) (by rw [addr_add_block]; exact hab (by simpa using h0))).trans (HSRC.out h0 j v hj)
  have k3 : 0 + ms.length ≤ cur.length := by rw [k1, hcl, Nat.zero_add]; exact Nat.min_le_left _ _
  have k4 : ∀ v ∈ ms, v.oneCell' = true := by rw [hms]; exact cellsInts_one zs
  have HMS : Hid (ms = zs.map (Value.int .u8)) := hms
  have HCL : Hid (cur.length = i) := hcl
  have HK1 : Hid (ms.length = Nat.min i i) := k1
  have HK2 := Lib.hid k2
  have HK4 := Lib.hid k4
  have HGD := Lib.hid hgD
  have HBM := Lib.hid hBm
  clear hom hgm hms k1 k2 k4 hgD hBm hcl HSRC
  refine Lib.hid ?_
  go_wp2_with (refine wpList_copy_splice rfl (.tmp 46) (.tmp 47) 22 22 rfl 5 Tryd.underlying22 size5 (some ⟨w.heap.size, 0, none⟩) (some a) i i i cap rfl rfl w.heap.size 0 cur 5 HGD.out ms HK1.out (fun h0 => ⟨rfl, a, rfl, HK2.out h0⟩) k3 HK4.out w.heap.size w HBM.out (Nat.le_refl _) ?_; intro w5 hg5 hB5; refine Hid.out ?_)
  have hg6 := hg5.out
  rw [HMS.out] at hg6
  have hW := hB5
  have hby := copied (zs := zs) (by rw [HCL.out, HL.out]) hg6
  have hlt : w.heap.size < w5.heap.size := Lib.lt_of_heap hg6
  have hev5 : w5.cell? ⟨1, 0, none⟩ = some (.iface 53 (.pointer (some ep))) := (hW.cell (p := ⟨1, 0, none⟩) h1R).trans HEV.out
  have h15 : 1 < w5.heap.size := Nat.lt_of_lt_of_le h1R hW.size
  have HW := Lib.hid hW
  have HBY := Lib.hid hby
  have HEV5 := Lib.hid hev5
  clear hg5 hg6 hB5 hW hby hev5 HGD HBM HK1 HK2 HK4 HMS HCL HEV k3
  refine Lib.hid ?_
  have hd1 := (HBY.out w5 (Below.refl _ _)).holds (n := i) (cp := i) (H := w5.heap.size) HL.out (Nat.le_refl _) (by omega) hn (fun b hb => by cases hb; exact hlt)
  have hz1 := zzReadBody_any i i (some ⟨w.heap.size, 0, none⟩) l1 r1 _ ep w5 hd1 hr1 hr1' HEV5.out h15
  clear hd1
  go_wp2_with fail
  refine hz1.mono ?_
  clear hz1
  rintro e w6 ⟨v6, rfl, hown6, hB6⟩
  obtain ⟨a6, c6, rfl, hby6⟩ := own_bytes hown6
  have hd2 := ((HBY.out w6 hB6).head i (by rw [HL.out]; omega)).holds (n := i) (cp := i) (H := w6.heap.size) (by rw [List.length_take, HL.out]; omega) (by omega) (by omega) (by omega) (fun b hb => by cases hb; exact Nat.lt_of_lt_of_le hlt hB6.size)
  have hev6 := (hB6.cell (p := ⟨1, 0, none⟩) h15).trans HEV5.out
  have h16 := Nat.lt_of_lt_of_le h15 hB6.size
  have hz2 := zzReadBody_any i i (some ⟨w.heap.size, 0, none⟩) l1 r1 _ ep w6 hd2 hr1 hr1' hev6 h16
  have HY6 := Lib.hid hby6
  have HB6 := Lib.hid hB6
  have HEV6 := Lib.hid hev6
  clear hown6 hby6 hB6 hev6 hd2
  go_wp2_with fail
  refine hz2.mono ?_
  clear hz2
  rintro e w7 ⟨v7, rfl, hown7, hB7⟩
  obtain ⟨a7, c7, rfl, hby7⟩ := own_bytes hown7
  have HY7 := Lib.hid hby7
  have HB7 := Lib.hid hB7
  have HEV7 := Lib.hid ((hB7.cell (p := ⟨1, 0, none⟩) h16).trans HEV6.out)
  have h17 := Nat.lt_of_lt_of_le h16 hB7.size
  have HB57 := Lib.hid (HB6.out.trans (hB7.mono HB6.out.size))
  clear hown7 hby7 hB7
  have hd3 := (Bytes.none_of (w := w7) (ao := some ⟨w.heap.size, 0, none⟩) (zs := zs.drop i) (by rw [List.length_drop, HL.out]; omega)).holds (n := 0) (cp := 0) (H := w7.heap.size) (by rw [List.length_drop, HL.out]; omega) (Nat.le_refl _) (by omega) (by omega) (fun b hb => by cases hb; exact Nat.lt_of_lt_of_le hlt HB57.out.size)
  have hz3 := zzReadBody_any 0 0 (some ⟨w.heap.size, 0, none⟩) l1 r1 _ ep w7 hd3 hr1 hr1' HEV7.out h17
  clear hd3
  go_wp2_with fail
  refine hz3.mono ?_
  clear hz3
  rintro e w8 ⟨v8, rfl, hown8, hB8⟩
  obtain ⟨a8, c8, rfl, hby8⟩ := own_bytes hown8
  have HB58 := Lib.hid (HB57.out.trans (hB8.mono HB57.out.size))
  have HY8 := Lib.hid (hby8 w8 (Below.refl _ _))
  have HZ7 := Lib.hid (HY7.out w8 hB8)
  have HZ6 := Lib.hid (HY6.out w8 (HB7.out.trans (hB8.mono HB7.out.size)))
  have HZD := Lib.hid (HBY.out w8 HB58.out)
  have HF : Hid (Below w.heap.size w w8) := HW.out.trans (HB58.out.mono HW.out.size)
  clear hown8 hby8 hB8 HY7 HY6 HBY HB58 HB57 HB7 HB6 HEV5 HEV6 HEV7 HW h15 h16 h17 hlt hb3 hi hz0 hz1 hby2 hml hab
  go_wp2_with fail
  go_loopw [16] (fun t wr => ∃ k : Nat, k ≤ i ∧ t = .int .i64 (k : Int) ∧ ∃ q, wr = w8.drewN q) (fun t _ => i - (intOf t).toNat)
  case atStart => exact ⟨0, Nat.zero_le _, rfl, 0, rfl⟩
  case round =>
    obtain ⟨k, hk, rfl, q, rfl⟩ := hrel
    by_cases hki : k < i
    · obtain ⟨d7, o7, rfl, hc7⟩ := HZ7.out (by rw [List.length_take, HL.out]; omega)
      obtain ⟨d6, o6, rfl, hc6⟩ := HZ6.out (by rw [HL.out]; omega)
      have g7 := hc7 k (by rw [List.length_take, HL.out]; omega)
      have g6 := hc6 k (by rw [HL.out]; omega)
      rw [getD_take zs i k hki] at g7
      generalize zs.getD k 0 = z at *
      clear hc6 hc7
      have j1 : (0 : Int) ≤ (k : Int) := by omega
      have j2 : (k : Int) < (i : Int) := by omega
      go_wp2_with fail
      go_quiet (fail)
      go_wp2_with fail
      go_roundw
      case rel => exact ⟨k + 1, by omega, by go_num, _, rfl⟩
      case measure => simp [intOf]; omega
    · go_wp2_with fail
      go_loopw [17] (fun t wr => ∃ k : Nat, k ≤ 0 ∧ t = .int .i64 (k : Int) ∧ ∃ q, wr = w8.drewN q) (fun t _ => 0 - (intOf t).toNat)
      case atStart => exact ⟨0, Nat.zero_le _, rfl, q, rfl⟩
      case round =>
        obtain ⟨k2, hk2, rfl, q2, rfl⟩ := hrel
        have hq := bytesEq_any a6 (some ⟨w.heap.size, 0, none⟩) i c6 i zs (w8.drewN q2) HL.out hn (HZ6.out.draws q2) (HZD.out.draws q2)
        go_wp2_with fail
        refine hq.mono ?_
        clear hq
        rintro e w9 ⟨rfl, q9, rfl⟩
        go_wp2
        go_ret
        have hf := HF.out
        exact ⟨rfl, ⟨hf.os, hf.tape, hf.output, hf.size, hf.block⟩⟩

set_option maxHeartbeats 4000000 in
/-- The law at a nil slice. -/
theorem law4_nil (l1 r1 : Int) (ep : Addr) (w : World) (hr1 : 0 ≤ r1) (hr1' : r1 ≤ 65536)
    (hev : w.cell? ⟨1, 0, none⟩ = some (.iface 53 (.pointer (some ep)))) (h1R : 1 < w.heap.size) :
    Calls Tryd.prog 4 #[.slice none 0 0, .int .i64 0, .int .i64 l1, .int .i64 r1] w fun e w' => e = .returned (.bool true) ∧ Below w.heap.size w w' := by
  have hb3 := bound4 none 0 0 0 l1 r1 w (by omega)
  have hH : ∀ W : World, Holds8 W W.heap.size none 0 0 (([] : List Int).map (Value.int .u8)) := fun W => (Bytes.none_of (w := W) (ao := none) (zs := []) rfl).holds (n := 0) (cp := 0) rfl (Nat.le_refl _) (by omega) (by omega) (fun b hb => by cases hb)
  have hz : ∀ W : World, Below w.heap.size w W → _ := fun W hb => zzReadBody_any 0 0 none l1 r1 _ ep W (hH W) hr1 hr1' ((hb.cell (p := ⟨1, 0, none⟩) h1R).trans hev) (Nat.lt_of_lt_of_le h1R hb.size)
  have HZ := Lib.hid hz
  have hz1 := hz w (Below.refl _ _)
  clear hz hH hev
  go_enter Tryd.func4, Tryd.ntmps4
  go_wp2_with (go_at_call 8; refine hb3.mono ?_; rintro e w' ⟨rfl, rfl⟩)
  refine hz1.mono ?_
  clear hz1
  rintro e w6 ⟨v6, rfl, hown6, hB6⟩
  obtain ⟨a6, c6, rfl, _⟩ := own_bytes hown6
  have hz2 := HZ.out w6 hB6
  have HB6 := Lib.hid hB6
  clear hown6 hB6
  go_wp2_with fail
  refine hz2.mono ?_
  clear hz2
  rintro e w7 ⟨v7, rfl, hown7, hB7⟩
  obtain ⟨a7, c7, rfl, _⟩ := own_bytes hown7
  have HB7 := Lib.hid (HB6.out.trans (hB7.mono HB6.out.size))
  have hz3 := HZ.out w7 HB7.out
  clear hown7 hB7 HB6
  go_wp2_with fail
  refine hz3.mono ?_
  clear hz3
  rintro e w8 ⟨v8, rfl, hown8, hB8⟩
  obtain ⟨a8, c8, rfl, _⟩ := own_bytes hown8
  have HF : Hid (Below w.heap.size w w8) := HB7.out.trans (hB8.mono HB7.out.size)
  clear hown8 hB8 HB7 HZ hb3
  go_wp2_with fail
  go_loopw [16] (fun t wr => t = .int .i64 0 ∧ ∃ q, wr = w8.drewN q) (fun _ _ => 0)
  case atStart => exact ⟨rfl, 0, rfl⟩
  case round =>
    obtain ⟨rfl, q, rfl⟩ := hrel
    go_wp2_with fail
    go_loopw [17] (fun t wr => t = .int .i64 0 ∧ ∃ q, wr = w8.drewN q) (fun _ _ => 0)
    case atStart => exact ⟨rfl, q, rfl⟩
    case round =>
      obtain ⟨rfl, q2, rfl⟩ := hrel
      have hq := bytesEq_any a6 none 0 c6 0 [] (w8.drewN q2) rfl (by omega) (Bytes.none_of rfl) (Bytes.none_of rfl)
      go_wp2_with fail
      refine hq.mono ?_
      clear hq
      rintro e w9 ⟨rfl, q9, rfl⟩
      go_wp2
      go_ret
      have hf := HF.out
      exact ⟨rfl, ⟨hf.os, hf.tape, hf.output, hf.size, hf.block⟩⟩

set_option maxHeartbeats 1000000 in
/-- The law outside its own bounds: true at once. -/
theorem law4_out (ao : Option Addr) (len cap : Nat) (i l1 r1 : Int) (w : World) (hl : len ≤ 140737488351232) (h : ¬ (len ≤ 1048576 ∧ (0 ≤ r1 ∧ r1 ≤ 65536) ∧ (0 ≤ i ∧ i ≤ (len : Int)))) :
    Calls Tryd.prog 4 #[.slice ao len cap, .int .i64 i, .int .i64 l1, .int .i64 r1] w fun e w' => e = .returned (.bool true) ∧ Below w.heap.size w w' := by
  have hb3 := bound4 ao len cap i l1 r1 w hl
  by_cases c1 : len ≤ 1048576
  · have hd : decide (len ≤ 1048576) = true := by simp [c1]
    rw [hd] at hb3
    have hni : (len : Int) ≤ 1048576 := by omega
    rcases (show r1 < 0 ∨ (0 ≤ r1 ∧ 65536 < r1) ∨ ((0 ≤ r1 ∧ r1 ≤ 65536) ∧ i < 0) ∨ ((0 ≤ r1 ∧ r1 ≤ 65536) ∧ 0 ≤ i ∧ (len : Int) < i) by omega) with g | ⟨g, g'⟩ | ⟨⟨g, g'⟩, g2⟩ | ⟨⟨g, g'⟩, g2, g2'⟩
    all_goals
      clear h c1 hd
      go_enter Tryd.func4, Tryd.ntmps4
      go_wp2_with (go_at_call 8; refine hb3.mono ?_; rintro e w' ⟨rfl, rfl⟩)
      go_ret
      exact ⟨rfl, Below.refl _ _⟩
  · have hd : decide (len ≤ 1048576) = false := by simp [c1]
    rw [hd] at hb3
    clear h c1 hd
    go_enter Tryd.func4, Tryd.ntmps4
    go_wp2_with (go_at_call 8; refine hb3.mono ?_; rintro e w' ⟨rfl, rfl⟩)
    go_ret
    exact ⟨rfl, Below.refl _ _⟩

/-- The law at every input. -/
theorem law4 (ao : Option Addr) (len cap : Nat) (zs : List Int) (i l1 r1 : Int) (ep : Addr) (w : World) (hnil : ao = none → len = 0 ∧ cap = 0) (hl : zs.length = len) (hlen : len ≤ 140737488351232) (hb : Bytes w ao zs)
    (hev : w.cell? ⟨1, 0, none⟩ = some (.iface 53 (.pointer (some ep)))) (h1R : 1 < w.heap.size) :
    Calls Tryd.prog 4 #[.slice ao len cap, .int .i64 i, .int .i64 l1, .int .i64 r1] w fun e w' => e = .returned (.bool true) ∧ Below w.heap.size w w' := by
  by_cases h : len ≤ 1048576 ∧ (0 ≤ r1 ∧ r1 ≤ 65536) ∧ (0 ≤ i ∧ i ≤ (len : Int))
  · obtain ⟨hn, ⟨g1, g1'⟩, ⟨g2, g2'⟩⟩ := h
    obtain ⟨j, rfl⟩ := Int.eq_ofNat_of_zero_le g2
    cases ao with
    | none =>
      obtain ⟨rfl, rfl⟩ := hnil rfl
      obtain rfl : j = 0 := by omega
      exact law4_nil l1 r1 ep w g1 g1' hev h1R
    | some a =>
      obtain ⟨m, rfl⟩ : ∃ m, len = j + m := ⟨len - j, by omega⟩
      by_cases hm : m = 0
      · subst hm
        exact law4_end a j cap zs l1 r1 ep w (by simpa using hl) (by simpa using hn) hb g1 g1' hev h1R
      · exact law4_some a j m cap zs l1 r1 ep w hl (by omega) hn hb g1 g1' hev h1R
  · exact law4_out ao len cap i l1 r1 w hlen h
end Go.Proofs.Qxb6618576aDoor
